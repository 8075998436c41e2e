import JvmDerived
import JvmDerived.Pilot.@@N@@Statement
import JvmDerived.Pilot.@@N@@Code
set_option linter.unusedVariables false
set_option linter.unusedSimpArgs false
namespace Jvm.Pilot.@@N@@
open Jvm Jvm.ClassFile Sem Op Lib Jvm.Free Jvm.Stand Jvm.LawKit Jvm.RoadKit Bundle Jvm.Pilot.@@N@@.Jvm.D
theorem own_go {tb : Tables} {e : Env} {below : List Frame} {A B : State} {P : State → Outcome → Prop} (h : ∀ t, Steps tb e below B t → Steps tb e below A t) (k : ∃ s₂ o, Steps tb e below B s₂ ∧ P s₂ o) : ∃ s₂ o, Steps tb e below A s₂ ∧ P s₂ o := by
  obtain ⟨s₂, o, h1, h2⟩ := k; exact ⟨s₂, o, h _ h1, h2⟩
theorem d10_0 : decode prog_103_method_31_code 0 = .ok (.iload_n 0, 1) := by decide +kernel
theorem d10_1 : decode prog_103_method_31_code 1 = .ok (.ldc 234, 2) := by decide +kernel
theorem d10_3 : decode prog_103_method_31_code 3 = .ok (.imul, 1) := by decide +kernel
theorem d10_4 : decode prog_103_method_31_code 4 = .ok (.istore 4, 2) := by decide +kernel
theorem d10_6 : decode prog_103_method_31_code 6 = .ok (.iload 4, 2) := by decide +kernel
theorem d10_8 : decode prog_103_method_31_code 8 = .ok (.iload_n 1, 1) := by decide +kernel
theorem d10_9 : decode prog_103_method_31_code 9 = .ok (.ixor, 1) := by decide +kernel
theorem d10_10 : decode prog_103_method_31_code 10 = .ok (.ldc 235, 2) := by decide +kernel
theorem d10_12 : decode prog_103_method_31_code 12 = .ok (.imul, 1) := by decide +kernel
theorem d10_13 : decode prog_103_method_31_code 13 = .ok (.istore 4, 2) := by decide +kernel
theorem d10_15 : decode prog_103_method_31_code 15 = .ok (.iload 4, 2) := by decide +kernel
theorem d10_17 : decode prog_103_method_31_code 17 = .ok (.iload_n 2, 1) := by decide +kernel
theorem d10_18 : decode prog_103_method_31_code 18 = .ok (.ixor, 1) := by decide +kernel
theorem d10_19 : decode prog_103_method_31_code 19 = .ok (.ldc 236, 2) := by decide +kernel
theorem d10_21 : decode prog_103_method_31_code 21 = .ok (.imul, 1) := by decide +kernel
theorem d10_22 : decode prog_103_method_31_code 22 = .ok (.istore 4, 2) := by decide +kernel
theorem d10_24 : decode prog_103_method_31_code 24 = .ok (.iload 4, 2) := by decide +kernel
theorem d10_26 : decode prog_103_method_31_code 26 = .ok (.iload_n 3, 1) := by decide +kernel
theorem d10_27 : decode prog_103_method_31_code 27 = .ok (.ixor, 1) := by decide +kernel
theorem d10_28 : decode prog_103_method_31_code 28 = .ok (.ldc 234, 2) := by decide +kernel
theorem d10_30 : decode prog_103_method_31_code 30 = .ok (.imul, 1) := by decide +kernel
theorem d10_31 : decode prog_103_method_31_code 31 = .ok (.istore 4, 2) := by decide +kernel
theorem d10_33 : decode prog_103_method_31_code 33 = .ok (.iload 4, 2) := by decide +kernel
theorem d10_35 : decode prog_103_method_31_code 35 = .ok (.iload 4, 2) := by decide +kernel
theorem d10_37 : decode prog_103_method_31_code 37 = .ok (.bipush 15, 2) := by decide +kernel
theorem d10_39 : decode prog_103_method_31_code 39 = .ok (.iushr, 1) := by decide +kernel
theorem d10_40 : decode prog_103_method_31_code 40 = .ok (.ixor, 1) := by decide +kernel
theorem d10_41 : decode prog_103_method_31_code 41 = .ok (.ireturn, 1) := by decide +kernel
theorem pn_0 : plainName "com/example/decider/decider/logic/bdd/Bdd" = true := by first | (simp [plainName, overriddenIn]; done) | decide +kernel
theorem d3_0 : decode jdk_29_method_69_code 0 = .ok (.iload_n 0, 1) := by decide +kernel
theorem d3_1 : decode jdk_29_method_69_code 1 = .ok (.iload_n 1, 1) := by decide +kernel
theorem d3_2 : decode jdk_29_method_69_code 2 = .ok (.if_icmp .gt 7, 3) := by decide +kernel
theorem d3_9 : decode jdk_29_method_69_code 9 = .ok (.iload_n 1, 1) := by decide +kernel
theorem d3_10 : decode jdk_29_method_69_code 10 = .ok (.ireturn, 1) := by decide +kernel
theorem d3_5 : decode jdk_29_method_69_code 5 = .ok (.iload_n 0, 1) := by decide +kernel
theorem d3_6 : decode jdk_29_method_69_code 6 = .ok (.goto 4, 3) := by decide +kernel
theorem d15_0 : decode jdk_29_method_65_code 0 = .ok (.iload_n 0, 1) := by decide +kernel
theorem d15_1 : decode jdk_29_method_65_code 1 = .ok (.iload_n 1, 1) := by decide +kernel
theorem d15_2 : decode jdk_29_method_65_code 2 = .ok (.if_icmp .lt 7, 3) := by decide +kernel
theorem d15_9 : decode jdk_29_method_65_code 9 = .ok (.iload_n 1, 1) := by decide +kernel
theorem d15_10 : decode jdk_29_method_65_code 10 = .ok (.ireturn, 1) := by decide +kernel
theorem d15_5 : decode jdk_29_method_65_code 5 = .ok (.iload_n 0, 1) := by decide +kernel
theorem d15_6 : decode jdk_29_method_65_code 6 = .ok (.goto 4, 3) := by decide +kernel
theorem d11_0 : decode prog_103_method_25_code 0 = .ok (.aload_n 0, 1) := by decide +kernel
theorem d11_1 : decode prog_103_method_25_code 1 = .ok (.getfield 43, 3) := by decide +kernel
theorem d11_4 : decode prog_103_method_25_code 4 = .ok (.arraylength, 1) := by decide +kernel
theorem d11_5 : decode prog_103_method_25_code 5 = .ok (.iconst 4, 1) := by decide +kernel
theorem d11_6 : decode prog_103_method_25_code 6 = .ok (.idiv, 1) := by decide +kernel
theorem d11_7 : decode prog_103_method_25_code 7 = .ok (.ireturn, 1) := by decide +kernel
theorem d20_0 : decode prog_103_method_21_code 0 = .ok (.aload_n 0, 1) := by decide +kernel
theorem d20_1 : decode prog_103_method_21_code 1 = .ok (.getfield 43, 3) := by decide +kernel
theorem d20_4 : decode prog_103_method_21_code 4 = .ok (.iconst 4, 1) := by decide +kernel
theorem d20_5 : decode prog_103_method_21_code 5 = .ok (.iload_n 1, 1) := by decide +kernel
theorem d20_6 : decode prog_103_method_21_code 6 = .ok (.imul, 1) := by decide +kernel
theorem d20_7 : decode prog_103_method_21_code 7 = .ok (.iaload, 1) := by decide +kernel
theorem d20_8 : decode prog_103_method_21_code 8 = .ok (.ireturn, 1) := by decide +kernel
theorem d22_0 : decode prog_103_method_22_code 0 = .ok (.aload_n 0, 1) := by decide +kernel
theorem d22_1 : decode prog_103_method_22_code 1 = .ok (.getfield 43, 3) := by decide +kernel
theorem d22_4 : decode prog_103_method_22_code 4 = .ok (.iconst 4, 1) := by decide +kernel
theorem d22_5 : decode prog_103_method_22_code 5 = .ok (.iload_n 1, 1) := by decide +kernel
theorem d22_6 : decode prog_103_method_22_code 6 = .ok (.imul, 1) := by decide +kernel
theorem d22_7 : decode prog_103_method_22_code 7 = .ok (.iconst 1, 1) := by decide +kernel
theorem d22_8 : decode prog_103_method_22_code 8 = .ok (.iadd, 1) := by decide +kernel
theorem d22_9 : decode prog_103_method_22_code 9 = .ok (.iaload, 1) := by decide +kernel
theorem d22_10 : decode prog_103_method_22_code 10 = .ok (.ireturn, 1) := by decide +kernel
theorem d23_0 : decode prog_103_method_23_code 0 = .ok (.aload_n 0, 1) := by decide +kernel
theorem d23_1 : decode prog_103_method_23_code 1 = .ok (.getfield 43, 3) := by decide +kernel
theorem d23_4 : decode prog_103_method_23_code 4 = .ok (.iconst 4, 1) := by decide +kernel
theorem d23_5 : decode prog_103_method_23_code 5 = .ok (.iload_n 1, 1) := by decide +kernel
theorem d23_6 : decode prog_103_method_23_code 6 = .ok (.imul, 1) := by decide +kernel
theorem d23_7 : decode prog_103_method_23_code 7 = .ok (.iconst 2, 1) := by decide +kernel
theorem d23_8 : decode prog_103_method_23_code 8 = .ok (.iadd, 1) := by decide +kernel
theorem d23_9 : decode prog_103_method_23_code 9 = .ok (.iaload, 1) := by decide +kernel
theorem d23_10 : decode prog_103_method_23_code 10 = .ok (.ireturn, 1) := by decide +kernel
theorem d9_0 : decode prog_103_method_24_code 0 = .ok (.iload_n 2, 1) := by decide +kernel
theorem d9_1 : decode prog_103_method_24_code 1 = .ok (.iload_n 3, 1) := by decide +kernel
theorem d9_2 : decode prog_103_method_24_code 2 = .ok (.if_icmp .ne 5, 3) := by decide +kernel
theorem d9_5 : decode prog_103_method_24_code 5 = .ok (.iload_n 2, 1) := by decide +kernel
theorem d9_6 : decode prog_103_method_24_code 6 = .ok (.ireturn, 1) := by decide +kernel
theorem d9_7 : decode prog_103_method_24_code 7 = .ok (.iload_n 1, 1) := by decide +kernel
theorem d9_8 : decode prog_103_method_24_code 8 = .ok (.iload_n 2, 1) := by decide +kernel
theorem d9_9 : decode prog_103_method_24_code 9 = .ok (.iload_n 3, 1) := by decide +kernel
theorem d9_10 : decode prog_103_method_24_code 10 = .ok (.iconst 0, 1) := by decide +kernel
theorem d9_11 : decode prog_103_method_24_code 11 = .ok (.invokestatic 195, 3) := by decide +kernel
theorem pd_0 : parseMethodDescriptor "(IIII)I" = some ⟨[.int, .int, .int, .int], some .int⟩ := by decide +kernel
theorem d9_14 : decode prog_103_method_24_code 14 = .ok (.aload_n 0, 1) := by decide +kernel
theorem d9_15 : decode prog_103_method_24_code 15 = .ok (.getfield 51, 3) := by decide +kernel
theorem d9_18 : decode prog_103_method_24_code 18 = .ok (.arraylength, 1) := by decide +kernel
theorem d9_19 : decode prog_103_method_24_code 19 = .ok (.iconst 1, 1) := by decide +kernel
theorem d9_20 : decode prog_103_method_24_code 20 = .ok (.isub, 1) := by decide +kernel
theorem d9_21 : decode prog_103_method_24_code 21 = .ok (.iand, 1) := by decide +kernel
theorem d9_22 : decode prog_103_method_24_code 22 = .ok (.istore 4, 2) := by decide +kernel
theorem d9_24 : decode prog_103_method_24_code 24 = .ok (.aload_n 0, 1) := by decide +kernel
theorem d9_25 : decode prog_103_method_24_code 25 = .ok (.getfield 51, 3) := by decide +kernel
theorem d9_28 : decode prog_103_method_24_code 28 = .ok (.iload 4, 2) := by decide +kernel
theorem d9_30 : decode prog_103_method_24_code 30 = .ok (.iaload, 1) := by decide +kernel
theorem d9_31 : decode prog_103_method_24_code 31 = .ok (.istore 5, 2) := by decide +kernel
theorem d9_33 : decode prog_103_method_24_code 33 = .ok (.iload 5, 2) := by decide +kernel
theorem d9_35 : decode prog_103_method_24_code 35 = .ok (.ifCond .lt 52, 3) := by decide +kernel
theorem d9_87 : decode prog_103_method_24_code 87 = .ok (.aload_n 0, 1) := by decide +kernel
theorem d9_88 : decode prog_103_method_24_code 88 = .ok (.getfield 66, 3) := by decide +kernel
theorem d9_91 : decode prog_103_method_24_code 91 = .ok (.aload_n 0, 1) := by decide +kernel
theorem d9_92 : decode prog_103_method_24_code 92 = .ok (.invokevirtual 198, 3) := by decide +kernel
theorem pd_1 : parseMethodDescriptor "()I" = some ⟨[], some .int⟩ := by decide +kernel
theorem d9_95 : decode prog_103_method_24_code 95 = .ok (.if_icmp .ne 15, 3) := by decide +kernel
theorem d9_110 : decode prog_103_method_24_code 110 = .ok (.aload_n 0, 1) := by decide +kernel
theorem d9_111 : decode prog_103_method_24_code 111 = .ok (.getfield 66, 3) := by decide +kernel
theorem d9_114 : decode prog_103_method_24_code 114 = .ok (.istore 5, 2) := by decide +kernel
theorem d9_116 : decode prog_103_method_24_code 116 = .ok (.aload_n 0, 1) := by decide +kernel
theorem d9_117 : decode prog_103_method_24_code 117 = .ok (.dup, 1) := by decide +kernel
theorem d9_118 : decode prog_103_method_24_code 118 = .ok (.getfield 66, 3) := by decide +kernel
theorem d9_121 : decode prog_103_method_24_code 121 = .ok (.iconst 1, 1) := by decide +kernel
theorem d9_122 : decode prog_103_method_24_code 122 = .ok (.iadd, 1) := by decide +kernel
theorem d9_123 : decode prog_103_method_24_code 123 = .ok (.putfield 66, 3) := by decide +kernel
theorem d9_126 : decode prog_103_method_24_code 126 = .ok (.iconst 4, 1) := by decide +kernel
theorem d9_127 : decode prog_103_method_24_code 127 = .ok (.iload 5, 2) := by decide +kernel
theorem d9_129 : decode prog_103_method_24_code 129 = .ok (.imul, 1) := by decide +kernel
theorem d9_130 : decode prog_103_method_24_code 130 = .ok (.istore 6, 2) := by decide +kernel
theorem d9_132 : decode prog_103_method_24_code 132 = .ok (.aload_n 0, 1) := by decide +kernel
theorem d9_133 : decode prog_103_method_24_code 133 = .ok (.getfield 43, 3) := by decide +kernel
theorem d9_136 : decode prog_103_method_24_code 136 = .ok (.iload 6, 2) := by decide +kernel
theorem d9_138 : decode prog_103_method_24_code 138 = .ok (.iload_n 1, 1) := by decide +kernel
theorem d9_139 : decode prog_103_method_24_code 139 = .ok (.iastore, 1) := by decide +kernel
theorem d9_140 : decode prog_103_method_24_code 140 = .ok (.aload_n 0, 1) := by decide +kernel
theorem d9_141 : decode prog_103_method_24_code 141 = .ok (.getfield 43, 3) := by decide +kernel
theorem d9_144 : decode prog_103_method_24_code 144 = .ok (.iload 6, 2) := by decide +kernel
theorem d9_146 : decode prog_103_method_24_code 146 = .ok (.iconst 1, 1) := by decide +kernel
theorem d9_147 : decode prog_103_method_24_code 147 = .ok (.iadd, 1) := by decide +kernel
theorem d9_148 : decode prog_103_method_24_code 148 = .ok (.iload_n 2, 1) := by decide +kernel
theorem d9_149 : decode prog_103_method_24_code 149 = .ok (.iastore, 1) := by decide +kernel
theorem d9_150 : decode prog_103_method_24_code 150 = .ok (.aload_n 0, 1) := by decide +kernel
theorem d9_151 : decode prog_103_method_24_code 151 = .ok (.getfield 43, 3) := by decide +kernel
theorem d9_154 : decode prog_103_method_24_code 154 = .ok (.iload 6, 2) := by decide +kernel
theorem d9_156 : decode prog_103_method_24_code 156 = .ok (.iconst 2, 1) := by decide +kernel
theorem d9_157 : decode prog_103_method_24_code 157 = .ok (.iadd, 1) := by decide +kernel
theorem d9_158 : decode prog_103_method_24_code 158 = .ok (.iload_n 3, 1) := by decide +kernel
theorem d9_159 : decode prog_103_method_24_code 159 = .ok (.iastore, 1) := by decide +kernel
theorem d9_160 : decode prog_103_method_24_code 160 = .ok (.aload_n 0, 1) := by decide +kernel
theorem d9_161 : decode prog_103_method_24_code 161 = .ok (.getfield 43, 3) := by decide +kernel
theorem d9_164 : decode prog_103_method_24_code 164 = .ok (.iload 6, 2) := by decide +kernel
theorem d9_166 : decode prog_103_method_24_code 166 = .ok (.iconst 3, 1) := by decide +kernel
theorem d9_167 : decode prog_103_method_24_code 167 = .ok (.iadd, 1) := by decide +kernel
theorem d9_168 : decode prog_103_method_24_code 168 = .ok (.aload_n 0, 1) := by decide +kernel
theorem d9_169 : decode prog_103_method_24_code 169 = .ok (.getfield 51, 3) := by decide +kernel
theorem d9_172 : decode prog_103_method_24_code 172 = .ok (.iload 4, 2) := by decide +kernel
theorem d9_174 : decode prog_103_method_24_code 174 = .ok (.iaload, 1) := by decide +kernel
theorem d9_175 : decode prog_103_method_24_code 175 = .ok (.iastore, 1) := by decide +kernel
theorem d9_176 : decode prog_103_method_24_code 176 = .ok (.aload_n 0, 1) := by decide +kernel
theorem d9_177 : decode prog_103_method_24_code 177 = .ok (.getfield 51, 3) := by decide +kernel
theorem d9_180 : decode prog_103_method_24_code 180 = .ok (.iload 4, 2) := by decide +kernel
theorem d9_182 : decode prog_103_method_24_code 182 = .ok (.iload 5, 2) := by decide +kernel
theorem d9_184 : decode prog_103_method_24_code 184 = .ok (.iastore, 1) := by decide +kernel
theorem d9_185 : decode prog_103_method_24_code 185 = .ok (.iload 5, 2) := by decide +kernel
theorem d9_187 : decode prog_103_method_24_code 187 = .ok (.ireturn, 1) := by decide +kernel
theorem d9_38 : decode prog_103_method_24_code 38 = .ok (.aload_n 0, 1) := by decide +kernel
theorem d9_39 : decode prog_103_method_24_code 39 = .ok (.iload 5, 2) := by decide +kernel
theorem d9_41 : decode prog_103_method_24_code 41 = .ok (.invokevirtual 92, 3) := by decide +kernel
theorem pd_2 : parseMethodDescriptor "(I)I" = some ⟨[.int], some .int⟩ := by decide +kernel
theorem d9_44 : decode prog_103_method_24_code 44 = .ok (.iload_n 1, 1) := by decide +kernel
theorem d9_45 : decode prog_103_method_24_code 45 = .ok (.if_icmp .ne 26, 3) := by decide +kernel
theorem d9_48 : decode prog_103_method_24_code 48 = .ok (.aload_n 0, 1) := by decide +kernel
theorem d9_49 : decode prog_103_method_24_code 49 = .ok (.iload 5, 2) := by decide +kernel
theorem d9_51 : decode prog_103_method_24_code 51 = .ok (.invokevirtual 137, 3) := by decide +kernel
theorem d9_54 : decode prog_103_method_24_code 54 = .ok (.iload_n 2, 1) := by decide +kernel
theorem d9_55 : decode prog_103_method_24_code 55 = .ok (.if_icmp .ne 16, 3) := by decide +kernel
theorem d9_58 : decode prog_103_method_24_code 58 = .ok (.aload_n 0, 1) := by decide +kernel
theorem d9_59 : decode prog_103_method_24_code 59 = .ok (.iload 5, 2) := by decide +kernel
theorem d9_61 : decode prog_103_method_24_code 61 = .ok (.invokevirtual 104, 3) := by decide +kernel
theorem d9_64 : decode prog_103_method_24_code 64 = .ok (.iload_n 3, 1) := by decide +kernel
theorem d9_65 : decode prog_103_method_24_code 65 = .ok (.if_icmp .ne 6, 3) := by decide +kernel
theorem d9_68 : decode prog_103_method_24_code 68 = .ok (.iload 5, 2) := by decide +kernel
theorem d9_70 : decode prog_103_method_24_code 70 = .ok (.ireturn, 1) := by decide +kernel
theorem d9_71 : decode prog_103_method_24_code 71 = .ok (.aload_n 0, 1) := by decide +kernel
theorem d9_72 : decode prog_103_method_24_code 72 = .ok (.getfield 43, 3) := by decide +kernel
theorem d9_75 : decode prog_103_method_24_code 75 = .ok (.iconst 4, 1) := by decide +kernel
theorem d9_76 : decode prog_103_method_24_code 76 = .ok (.iload 5, 2) := by decide +kernel
theorem d9_78 : decode prog_103_method_24_code 78 = .ok (.imul, 1) := by decide +kernel
theorem d9_79 : decode prog_103_method_24_code 79 = .ok (.iconst 3, 1) := by decide +kernel
theorem d9_80 : decode prog_103_method_24_code 80 = .ok (.iadd, 1) := by decide +kernel
theorem d9_81 : decode prog_103_method_24_code 81 = .ok (.iaload, 1) := by decide +kernel
theorem d9_82 : decode prog_103_method_24_code 82 = .ok (.istore 5, 2) := by decide +kernel
theorem d9_84 : decode prog_103_method_24_code 84 = .ok (.goto (-51), 3) := by decide +kernel
theorem d8_0 : decode prog_103_method_17_code 0 = .ok (.iload_n 1, 1) := by decide +kernel
theorem d8_1 : decode prog_103_method_17_code 1 = .ok (.ifCond .lt 11, 3) := by decide +kernel
theorem d8_4 : decode prog_103_method_17_code 4 = .ok (.iload_n 1, 1) := by decide +kernel
theorem d8_5 : decode prog_103_method_17_code 5 = .ok (.aload_n 0, 1) := by decide +kernel
theorem d8_6 : decode prog_103_method_17_code 6 = .ok (.getfield 25, 3) := by decide +kernel
theorem d8_9 : decode prog_103_method_17_code 9 = .ok (.if_icmp .lt 21, 3) := by decide +kernel
theorem d8_30 : decode prog_103_method_17_code 30 = .ok (.return_, 1) := by decide +kernel
theorem d7_0 : decode prog_103_method_3_code 0 = .ok (.aload_n 0, 1) := by decide +kernel
theorem d7_1 : decode prog_103_method_3_code 1 = .ok (.iload_n 1, 1) := by decide +kernel
theorem d7_2 : decode prog_103_method_3_code 2 = .ok (.invokevirtual 69, 3) := by decide +kernel
theorem pd_3 : parseMethodDescriptor "(I)V" = some ⟨[.int], none⟩ := by decide +kernel
theorem d7_5 : decode prog_103_method_3_code 5 = .ok (.aload_n 0, 1) := by decide +kernel
theorem d7_6 : decode prog_103_method_3_code 6 = .ok (.iload_n 1, 1) := by decide +kernel
theorem d7_7 : decode prog_103_method_3_code 7 = .ok (.iconst 0, 1) := by decide +kernel
theorem d7_8 : decode prog_103_method_3_code 8 = .ok (.iconst 1, 1) := by decide +kernel
theorem d7_9 : decode prog_103_method_3_code 9 = .ok (.invokevirtual 73, 3) := by decide +kernel
theorem pd_4 : parseMethodDescriptor "(III)I" = some ⟨[.int, .int, .int], some .int⟩ := by decide +kernel
theorem d7_12 : decode prog_103_method_3_code 12 = .ok (.ireturn, 1) := by decide +kernel
theorem d21_0 : decode prog_103_method_18_code 0 = .ok (.iload_n 1, 1) := by decide +kernel
theorem d21_1 : decode prog_103_method_18_code 1 = .ok (.istore 4, 2) := by decide +kernel
theorem d21_3 : decode prog_103_method_18_code 3 = .ok (.aload_n 0, 1) := by decide +kernel
theorem d21_4 : decode prog_103_method_18_code 4 = .ok (.iload_n 1, 1) := by decide +kernel
theorem d21_5 : decode prog_103_method_18_code 5 = .ok (.invokevirtual 92, 3) := by decide +kernel
theorem d21_8 : decode prog_103_method_18_code 8 = .ok (.iload_n 2, 1) := by decide +kernel
theorem d21_9 : decode prog_103_method_18_code 9 = .ok (.if_icmp .ne 22, 3) := by decide +kernel
theorem d21_12 : decode prog_103_method_18_code 12 = .ok (.iload_n 3, 1) := by decide +kernel
theorem d21_13 : decode prog_103_method_18_code 13 = .ok (.ifCond .eq 11, 3) := by decide +kernel
theorem d21_24 : decode prog_103_method_18_code 24 = .ok (.aload_n 0, 1) := by decide +kernel
theorem d21_25 : decode prog_103_method_18_code 25 = .ok (.iload_n 1, 1) := by decide +kernel
theorem d21_26 : decode prog_103_method_18_code 26 = .ok (.invokevirtual 137, 3) := by decide +kernel
theorem d21_29 : decode prog_103_method_18_code 29 = .ok (.istore 4, 2) := by decide +kernel
theorem d21_31 : decode prog_103_method_18_code 31 = .ok (.iload 4, 2) := by decide +kernel
theorem d21_33 : decode prog_103_method_18_code 33 = .ok (.ireturn, 1) := by decide +kernel
theorem d21_16 : decode prog_103_method_18_code 16 = .ok (.aload_n 0, 1) := by decide +kernel
theorem d21_17 : decode prog_103_method_18_code 17 = .ok (.iload_n 1, 1) := by decide +kernel
theorem d21_18 : decode prog_103_method_18_code 18 = .ok (.invokevirtual 104, 3) := by decide +kernel
theorem d21_21 : decode prog_103_method_18_code 21 = .ok (.goto 8, 3) := by decide +kernel
theorem d19_0 : decode prog_103_method_30_code 0 = .ok (.iconst 4, 1) := by decide +kernel
theorem d19_1 : decode prog_103_method_30_code 1 = .ok (.iload_n 1, 1) := by decide +kernel
theorem d19_2 : decode prog_103_method_30_code 2 = .ok (.iload_n 2, 1) := by decide +kernel
theorem d19_3 : decode prog_103_method_30_code 3 = .ok (.iload_n 3, 1) := by decide +kernel
theorem d19_4 : decode prog_103_method_30_code 4 = .ok (.iload 4, 2) := by decide +kernel
theorem d19_6 : decode prog_103_method_30_code 6 = .ok (.invokestatic 195, 3) := by decide +kernel
theorem d19_9 : decode prog_103_method_30_code 9 = .ok (.bipush 32, 2) := by decide +kernel
theorem d19_11 : decode prog_103_method_30_code 11 = .ok (.aload_n 0, 1) := by decide +kernel
theorem d19_12 : decode prog_103_method_30_code 12 = .ok (.getfield 60, 3) := by decide +kernel
theorem d19_15 : decode prog_103_method_30_code 15 = .ok (.isub, 1) := by decide +kernel
theorem d19_16 : decode prog_103_method_30_code 16 = .ok (.iushr, 1) := by decide +kernel
theorem d19_17 : decode prog_103_method_30_code 17 = .ok (.imul, 1) := by decide +kernel
theorem d19_18 : decode prog_103_method_30_code 18 = .ok (.ireturn, 1) := by decide +kernel
theorem d18_0 : decode prog_103_method_27_code 0 = .ok (.aload_n 0, 1) := by decide +kernel
theorem d18_1 : decode prog_103_method_27_code 1 = .ok (.iload_n 1, 1) := by decide +kernel
theorem d18_2 : decode prog_103_method_27_code 2 = .ok (.iload_n 2, 1) := by decide +kernel
theorem d18_3 : decode prog_103_method_27_code 3 = .ok (.iload_n 3, 1) := by decide +kernel
theorem d18_4 : decode prog_103_method_27_code 4 = .ok (.iload 4, 2) := by decide +kernel
theorem d18_6 : decode prog_103_method_27_code 6 = .ok (.invokevirtual 219, 3) := by decide +kernel
theorem d18_9 : decode prog_103_method_27_code 9 = .ok (.istore 5, 2) := by decide +kernel
theorem d18_11 : decode prog_103_method_27_code 11 = .ok (.aload_n 0, 1) := by decide +kernel
theorem d18_12 : decode prog_103_method_27_code 12 = .ok (.getfield 63, 3) := by decide +kernel
theorem d18_15 : decode prog_103_method_27_code 15 = .ok (.iload 5, 2) := by decide +kernel
theorem d18_17 : decode prog_103_method_27_code 17 = .ok (.iaload, 1) := by decide +kernel
theorem d18_18 : decode prog_103_method_27_code 18 = .ok (.iload_n 2, 1) := by decide +kernel
theorem d18_19 : decode prog_103_method_27_code 19 = .ok (.if_icmp .ne 38, 3) := by decide +kernel
theorem d18_22 : decode prog_103_method_27_code 22 = .ok (.aload_n 0, 1) := by decide +kernel
theorem d18_23 : decode prog_103_method_27_code 23 = .ok (.getfield 63, 3) := by decide +kernel
theorem d18_26 : decode prog_103_method_27_code 26 = .ok (.iload 5, 2) := by decide +kernel
theorem d18_28 : decode prog_103_method_27_code 28 = .ok (.iconst 1, 1) := by decide +kernel
theorem d18_29 : decode prog_103_method_27_code 29 = .ok (.iadd, 1) := by decide +kernel
theorem d18_30 : decode prog_103_method_27_code 30 = .ok (.iaload, 1) := by decide +kernel
theorem d18_31 : decode prog_103_method_27_code 31 = .ok (.iload_n 3, 1) := by decide +kernel
theorem d18_32 : decode prog_103_method_27_code 32 = .ok (.if_icmp .ne 25, 3) := by decide +kernel
theorem d18_35 : decode prog_103_method_27_code 35 = .ok (.aload_n 0, 1) := by decide +kernel
theorem d18_36 : decode prog_103_method_27_code 36 = .ok (.getfield 63, 3) := by decide +kernel
theorem d18_39 : decode prog_103_method_27_code 39 = .ok (.iload 5, 2) := by decide +kernel
theorem d18_41 : decode prog_103_method_27_code 41 = .ok (.iconst 2, 1) := by decide +kernel
theorem d18_42 : decode prog_103_method_27_code 42 = .ok (.iadd, 1) := by decide +kernel
theorem d18_43 : decode prog_103_method_27_code 43 = .ok (.iaload, 1) := by decide +kernel
theorem d18_44 : decode prog_103_method_27_code 44 = .ok (.iload 4, 2) := by decide +kernel
theorem d18_46 : decode prog_103_method_27_code 46 = .ok (.iconst 3, 1) := by decide +kernel
theorem d18_47 : decode prog_103_method_27_code 47 = .ok (.ishl, 1) := by decide +kernel
theorem d18_48 : decode prog_103_method_27_code 48 = .ok (.iload_n 1, 1) := by decide +kernel
theorem d18_49 : decode prog_103_method_27_code 49 = .ok (.ior, 1) := by decide +kernel
theorem d18_50 : decode prog_103_method_27_code 50 = .ok (.if_icmp .ne 7, 3) := by decide +kernel
theorem d18_53 : decode prog_103_method_27_code 53 = .ok (.iconst 1, 1) := by decide +kernel
theorem d18_54 : decode prog_103_method_27_code 54 = .ok (.goto 4, 3) := by decide +kernel
theorem d18_58 : decode prog_103_method_27_code 58 = .ok (.istore 6, 2) := by decide +kernel
theorem d18_60 : decode prog_103_method_27_code 60 = .ok (.iload 6, 2) := by decide +kernel
theorem d18_62 : decode prog_103_method_27_code 62 = .ok (.ifCond .eq 15, 3) := by decide +kernel
theorem d18_65 : decode prog_103_method_27_code 65 = .ok (.aload_n 0, 1) := by decide +kernel
theorem d18_66 : decode prog_103_method_27_code 66 = .ok (.getfield 63, 3) := by decide +kernel
theorem d18_69 : decode prog_103_method_27_code 69 = .ok (.iload 5, 2) := by decide +kernel
theorem d18_71 : decode prog_103_method_27_code 71 = .ok (.iconst 3, 1) := by decide +kernel
theorem d18_72 : decode prog_103_method_27_code 72 = .ok (.iadd, 1) := by decide +kernel
theorem d18_73 : decode prog_103_method_27_code 73 = .ok (.iaload, 1) := by decide +kernel
theorem d18_74 : decode prog_103_method_27_code 74 = .ok (.goto 4, 3) := by decide +kernel
theorem d18_78 : decode prog_103_method_27_code 78 = .ok (.ireturn, 1) := by decide +kernel
theorem d18_57 : decode prog_103_method_27_code 57 = .ok (.iconst 0, 1) := by decide +kernel
theorem d18_77 : decode prog_103_method_27_code 77 = .ok (.iconst (-1), 1) := by decide +kernel
theorem d24_0 : decode prog_103_method_28_code 0 = .ok (.aload_n 0, 1) := by decide +kernel
theorem d24_1 : decode prog_103_method_28_code 1 = .ok (.getfield 185, 3) := by decide +kernel
theorem d24_4 : decode prog_103_method_28_code 4 = .ok (.aload_n 0, 1) := by decide +kernel
theorem d24_5 : decode prog_103_method_28_code 5 = .ok (.getfield 39, 3) := by decide +kernel
theorem d24_8 : decode prog_103_method_28_code 8 = .ok (.lcmp, 1) := by decide +kernel
theorem d24_9 : decode prog_103_method_28_code 9 = .ok (.ifCond .ne 20, 3) := by decide +kernel
theorem d24_29 : decode prog_103_method_28_code 29 = .ok (.aload_n 0, 1) := by decide +kernel
theorem d24_30 : decode prog_103_method_28_code 30 = .ok (.dup, 1) := by decide +kernel
theorem d24_31 : decode prog_103_method_28_code 31 = .ok (.getfield 185, 3) := by decide +kernel
theorem d24_34 : decode prog_103_method_28_code 34 = .ok (.lconst 1, 1) := by decide +kernel
theorem d24_35 : decode prog_103_method_28_code 35 = .ok (.ladd, 1) := by decide +kernel
theorem d24_36 : decode prog_103_method_28_code 36 = .ok (.putfield 185, 3) := by decide +kernel
theorem d24_39 : decode prog_103_method_28_code 39 = .ok (.aload_n 0, 1) := by decide +kernel
theorem d24_40 : decode prog_103_method_28_code 40 = .ok (.getfield 185, 3) := by decide +kernel
theorem d24_43 : decode prog_103_method_28_code 43 = .ok (.lconst 1, 1) := by decide +kernel
theorem d24_44 : decode prog_103_method_28_code 44 = .ok (.aload_n 0, 1) := by decide +kernel
theorem d24_45 : decode prog_103_method_28_code 45 = .ok (.getfield 60, 3) := by decide +kernel
theorem d24_48 : decode prog_103_method_28_code 48 = .ok (.lshl, 1) := by decide +kernel
theorem d24_49 : decode prog_103_method_28_code 49 = .ok (.lcmp, 1) := by decide +kernel
theorem d24_50 : decode prog_103_method_28_code 50 = .ok (.ifCond .le 16, 3) := by decide +kernel
theorem d24_66 : decode prog_103_method_28_code 66 = .ok (.aload_n 0, 1) := by decide +kernel
theorem d24_67 : decode prog_103_method_28_code 67 = .ok (.iload_n 1, 1) := by decide +kernel
theorem d24_68 : decode prog_103_method_28_code 68 = .ok (.iload_n 2, 1) := by decide +kernel
theorem d24_69 : decode prog_103_method_28_code 69 = .ok (.iload_n 3, 1) := by decide +kernel
theorem d24_70 : decode prog_103_method_28_code 70 = .ok (.iload 4, 2) := by decide +kernel
theorem d24_72 : decode prog_103_method_28_code 72 = .ok (.invokevirtual 219, 3) := by decide +kernel
theorem d24_75 : decode prog_103_method_28_code 75 = .ok (.istore 6, 2) := by decide +kernel
theorem d24_77 : decode prog_103_method_28_code 77 = .ok (.aload_n 0, 1) := by decide +kernel
theorem d24_78 : decode prog_103_method_28_code 78 = .ok (.getfield 63, 3) := by decide +kernel
theorem d24_81 : decode prog_103_method_28_code 81 = .ok (.iload 6, 2) := by decide +kernel
theorem d24_83 : decode prog_103_method_28_code 83 = .ok (.iload_n 2, 1) := by decide +kernel
theorem d24_84 : decode prog_103_method_28_code 84 = .ok (.iastore, 1) := by decide +kernel
theorem d24_85 : decode prog_103_method_28_code 85 = .ok (.aload_n 0, 1) := by decide +kernel
theorem d24_86 : decode prog_103_method_28_code 86 = .ok (.getfield 63, 3) := by decide +kernel
theorem d24_89 : decode prog_103_method_28_code 89 = .ok (.iload 6, 2) := by decide +kernel
theorem d24_91 : decode prog_103_method_28_code 91 = .ok (.iconst 1, 1) := by decide +kernel
theorem d24_92 : decode prog_103_method_28_code 92 = .ok (.iadd, 1) := by decide +kernel
theorem d24_93 : decode prog_103_method_28_code 93 = .ok (.iload_n 3, 1) := by decide +kernel
theorem d24_94 : decode prog_103_method_28_code 94 = .ok (.iastore, 1) := by decide +kernel
theorem d24_95 : decode prog_103_method_28_code 95 = .ok (.aload_n 0, 1) := by decide +kernel
theorem d24_96 : decode prog_103_method_28_code 96 = .ok (.getfield 63, 3) := by decide +kernel
theorem d24_99 : decode prog_103_method_28_code 99 = .ok (.iload 6, 2) := by decide +kernel
theorem d24_101 : decode prog_103_method_28_code 101 = .ok (.iconst 2, 1) := by decide +kernel
theorem d24_102 : decode prog_103_method_28_code 102 = .ok (.iadd, 1) := by decide +kernel
theorem d24_103 : decode prog_103_method_28_code 103 = .ok (.iload 4, 2) := by decide +kernel
theorem d24_105 : decode prog_103_method_28_code 105 = .ok (.iconst 3, 1) := by decide +kernel
theorem d24_106 : decode prog_103_method_28_code 106 = .ok (.ishl, 1) := by decide +kernel
theorem d24_107 : decode prog_103_method_28_code 107 = .ok (.iload_n 1, 1) := by decide +kernel
theorem d24_108 : decode prog_103_method_28_code 108 = .ok (.ior, 1) := by decide +kernel
theorem d24_109 : decode prog_103_method_28_code 109 = .ok (.iastore, 1) := by decide +kernel
theorem d24_110 : decode prog_103_method_28_code 110 = .ok (.aload_n 0, 1) := by decide +kernel
theorem d24_111 : decode prog_103_method_28_code 111 = .ok (.getfield 63, 3) := by decide +kernel
theorem d24_114 : decode prog_103_method_28_code 114 = .ok (.iload 6, 2) := by decide +kernel
theorem d24_116 : decode prog_103_method_28_code 116 = .ok (.iconst 3, 1) := by decide +kernel
theorem d24_117 : decode prog_103_method_28_code 117 = .ok (.iadd, 1) := by decide +kernel
theorem d24_118 : decode prog_103_method_28_code 118 = .ok (.iload 5, 2) := by decide +kernel
theorem d24_120 : decode prog_103_method_28_code 120 = .ok (.iastore, 1) := by decide +kernel
theorem d24_121 : decode prog_103_method_28_code 121 = .ok (.return_, 1) := by decide +kernel
theorem d16_0 : decode prog_103_method_20_code 0 = .ok (.iconst (-1), 1) := by decide +kernel
theorem d16_1 : decode prog_103_method_20_code 1 = .ok (.istore_n 3, 1) := by decide +kernel
theorem d16_2 : decode prog_103_method_20_code 2 = .ok (.iload_n 0, 1) := by decide +kernel
theorem d16_3 : decode prog_103_method_20_code 3 = .ok (.ifCond .ne 27, 3) := by decide +kernel
theorem d16_6 : decode prog_103_method_20_code 6 = .ok (.iload_n 1, 1) := by decide +kernel
theorem d16_7 : decode prog_103_method_20_code 7 = .ok (.ifCond .eq 8, 3) := by decide +kernel
theorem d16_15 : decode prog_103_method_20_code 15 = .ok (.iload_n 1, 1) := by decide +kernel
theorem d16_16 : decode prog_103_method_20_code 16 = .ok (.istore_n 3, 1) := by decide +kernel
theorem d16_17 : decode prog_103_method_20_code 17 = .ok (.goto 96, 3) := by decide +kernel
theorem d16_10 : decode prog_103_method_20_code 10 = .ok (.iload_n 1, 1) := by decide +kernel
theorem d16_11 : decode prog_103_method_20_code 11 = .ok (.iload_n 2, 1) := by decide +kernel
theorem d16_12 : decode prog_103_method_20_code 12 = .ok (.if_icmp .ne 8, 3) := by decide +kernel
theorem d16_20 : decode prog_103_method_20_code 20 = .ok (.iload_n 1, 1) := by decide +kernel
theorem d16_21 : decode prog_103_method_20_code 21 = .ok (.iconst 1, 1) := by decide +kernel
theorem d16_22 : decode prog_103_method_20_code 22 = .ok (.if_icmp .ne 91, 3) := by decide +kernel
theorem d16_25 : decode prog_103_method_20_code 25 = .ok (.iload_n 2, 1) := by decide +kernel
theorem d16_26 : decode prog_103_method_20_code 26 = .ok (.istore_n 3, 1) := by decide +kernel
theorem d16_27 : decode prog_103_method_20_code 27 = .ok (.goto 86, 3) := by decide +kernel
theorem d16_30 : decode prog_103_method_20_code 30 = .ok (.iload_n 0, 1) := by decide +kernel
theorem d16_31 : decode prog_103_method_20_code 31 = .ok (.iconst 1, 1) := by decide +kernel
theorem d16_32 : decode prog_103_method_20_code 32 = .ok (.if_icmp .ne 32, 3) := by decide +kernel
theorem d16_35 : decode prog_103_method_20_code 35 = .ok (.iload_n 1, 1) := by decide +kernel
theorem d16_36 : decode prog_103_method_20_code 36 = .ok (.iconst 1, 1) := by decide +kernel
theorem d16_37 : decode prog_103_method_20_code 37 = .ok (.if_icmp .eq 8, 3) := by decide +kernel
theorem d16_45 : decode prog_103_method_20_code 45 = .ok (.iconst 1, 1) := by decide +kernel
theorem d16_46 : decode prog_103_method_20_code 46 = .ok (.istore_n 3, 1) := by decide +kernel
theorem d16_47 : decode prog_103_method_20_code 47 = .ok (.goto 66, 3) := by decide +kernel
theorem d16_40 : decode prog_103_method_20_code 40 = .ok (.iload_n 2, 1) := by decide +kernel
theorem d16_41 : decode prog_103_method_20_code 41 = .ok (.iconst 1, 1) := by decide +kernel
theorem d16_42 : decode prog_103_method_20_code 42 = .ok (.if_icmp .ne 8, 3) := by decide +kernel
theorem d16_50 : decode prog_103_method_20_code 50 = .ok (.iload_n 1, 1) := by decide +kernel
theorem d16_51 : decode prog_103_method_20_code 51 = .ok (.ifCond .eq 8, 3) := by decide +kernel
theorem d16_59 : decode prog_103_method_20_code 59 = .ok (.iload_n 2, 1) := by decide +kernel
theorem d16_60 : decode prog_103_method_20_code 60 = .ok (.istore_n 3, 1) := by decide +kernel
theorem d16_61 : decode prog_103_method_20_code 61 = .ok (.goto 52, 3) := by decide +kernel
theorem d16_54 : decode prog_103_method_20_code 54 = .ok (.iload_n 1, 1) := by decide +kernel
theorem d16_55 : decode prog_103_method_20_code 55 = .ok (.iload_n 2, 1) := by decide +kernel
theorem d16_56 : decode prog_103_method_20_code 56 = .ok (.if_icmp .ne 57, 3) := by decide +kernel
theorem d16_64 : decode prog_103_method_20_code 64 = .ok (.iload_n 0, 1) := by decide +kernel
theorem d16_65 : decode prog_103_method_20_code 65 = .ok (.iconst 5, 1) := by decide +kernel
theorem d16_66 : decode prog_103_method_20_code 66 = .ok (.if_icmp .ne 31, 3) := by decide +kernel
theorem d16_69 : decode prog_103_method_20_code 69 = .ok (.iload_n 1, 1) := by decide +kernel
theorem d16_70 : decode prog_103_method_20_code 70 = .ok (.ifCond .eq 13, 3) := by decide +kernel
theorem d16_83 : decode prog_103_method_20_code 83 = .ok (.iconst 0, 1) := by decide +kernel
theorem d16_84 : decode prog_103_method_20_code 84 = .ok (.istore_n 3, 1) := by decide +kernel
theorem d16_85 : decode prog_103_method_20_code 85 = .ok (.goto 28, 3) := by decide +kernel
theorem d16_73 : decode prog_103_method_20_code 73 = .ok (.iload_n 2, 1) := by decide +kernel
theorem d16_74 : decode prog_103_method_20_code 74 = .ok (.iconst 1, 1) := by decide +kernel
theorem d16_75 : decode prog_103_method_20_code 75 = .ok (.if_icmp .eq 8, 3) := by decide +kernel
theorem d16_78 : decode prog_103_method_20_code 78 = .ok (.iload_n 1, 1) := by decide +kernel
theorem d16_79 : decode prog_103_method_20_code 79 = .ok (.iload_n 2, 1) := by decide +kernel
theorem d16_80 : decode prog_103_method_20_code 80 = .ok (.if_icmp .ne 8, 3) := by decide +kernel
theorem d16_88 : decode prog_103_method_20_code 88 = .ok (.iload_n 2, 1) := by decide +kernel
theorem d16_89 : decode prog_103_method_20_code 89 = .ok (.ifCond .ne 24, 3) := by decide +kernel
theorem d16_92 : decode prog_103_method_20_code 92 = .ok (.iload_n 1, 1) := by decide +kernel
theorem d16_93 : decode prog_103_method_20_code 93 = .ok (.istore_n 3, 1) := by decide +kernel
theorem d16_94 : decode prog_103_method_20_code 94 = .ok (.goto 19, 3) := by decide +kernel
theorem d16_97 : decode prog_103_method_20_code 97 = .ok (.iload_n 1, 1) := by decide +kernel
theorem d16_98 : decode prog_103_method_20_code 98 = .ok (.iload_n 2, 1) := by decide +kernel
theorem d16_99 : decode prog_103_method_20_code 99 = .ok (.if_icmp .ne 8, 3) := by decide +kernel
theorem d16_102 : decode prog_103_method_20_code 102 = .ok (.iconst 0, 1) := by decide +kernel
theorem d16_103 : decode prog_103_method_20_code 103 = .ok (.istore_n 3, 1) := by decide +kernel
theorem d16_104 : decode prog_103_method_20_code 104 = .ok (.goto 9, 3) := by decide +kernel
theorem d16_107 : decode prog_103_method_20_code 107 = .ok (.iload_n 1, 1) := by decide +kernel
theorem d16_108 : decode prog_103_method_20_code 108 = .ok (.ifCond .ne 5, 3) := by decide +kernel
theorem d16_111 : decode prog_103_method_20_code 111 = .ok (.iload_n 2, 1) := by decide +kernel
theorem d16_112 : decode prog_103_method_20_code 112 = .ok (.istore_n 3, 1) := by decide +kernel
theorem d16_113 : decode prog_103_method_20_code 113 = .ok (.iload_n 3, 1) := by decide +kernel
theorem d16_114 : decode prog_103_method_20_code 114 = .ok (.ireturn, 1) := by decide +kernel
theorem d14_44 : decode prog_103_method_19_code 44 = .ok (.iload_n 1, 1) := by decide +kernel
theorem d14_45 : decode prog_103_method_19_code 45 = .ok (.iload 5, 2) := by decide +kernel
theorem d14_47 : decode prog_103_method_19_code 47 = .ok (.iload 6, 2) := by decide +kernel
theorem d14_49 : decode prog_103_method_19_code 49 = .ok (.invokestatic 192, 3) := by decide +kernel
theorem d14_52 : decode prog_103_method_19_code 52 = .ok (.istore 7, 2) := by decide +kernel
theorem d14_54 : decode prog_103_method_19_code 54 = .ok (.iload 7, 2) := by decide +kernel
theorem d14_56 : decode prog_103_method_19_code 56 = .ok (.ifCond .ge 103, 3) := by decide +kernel
theorem d14_159 : decode prog_103_method_19_code 159 = .ok (.iload 7, 2) := by decide +kernel
theorem d14_161 : decode prog_103_method_19_code 161 = .ok (.ireturn, 1) := by decide +kernel
theorem d14_0 : decode prog_103_method_19_code 0 = .ok (.iload_n 1, 1) := by decide +kernel
theorem d14_1 : decode prog_103_method_19_code 1 = .ok (.iconst 5, 1) := by decide +kernel
theorem d14_2 : decode prog_103_method_19_code 2 = .ok (.if_icmp .ne 7, 3) := by decide +kernel
theorem d14_5 : decode prog_103_method_19_code 5 = .ok (.iconst 1, 1) := by decide +kernel
theorem d14_6 : decode prog_103_method_19_code 6 = .ok (.goto 4, 3) := by decide +kernel
theorem d14_10 : decode prog_103_method_19_code 10 = .ok (.istore 4, 2) := by decide +kernel
theorem d14_12 : decode prog_103_method_19_code 12 = .ok (.iload 4, 2) := by decide +kernel
theorem d14_14 : decode prog_103_method_19_code 14 = .ok (.ifCond .eq 7, 3) := by decide +kernel
theorem d14_17 : decode prog_103_method_19_code 17 = .ok (.iload_n 2, 1) := by decide +kernel
theorem d14_18 : decode prog_103_method_19_code 18 = .ok (.goto 8, 3) := by decide +kernel
theorem d14_26 : decode prog_103_method_19_code 26 = .ok (.istore 5, 2) := by decide +kernel
theorem d14_28 : decode prog_103_method_19_code 28 = .ok (.iload 4, 2) := by decide +kernel
theorem d14_30 : decode prog_103_method_19_code 30 = .ok (.ifCond .eq 7, 3) := by decide +kernel
theorem d14_33 : decode prog_103_method_19_code 33 = .ok (.iload_n 3, 1) := by decide +kernel
theorem d14_34 : decode prog_103_method_19_code 34 = .ok (.goto 8, 3) := by decide +kernel
theorem d14_42 : decode prog_103_method_19_code 42 = .ok (.istore 6, 2) := by decide +kernel
theorem d14_9 : decode prog_103_method_19_code 9 = .ok (.iconst 0, 1) := by decide +kernel
theorem d14_21 : decode prog_103_method_19_code 21 = .ok (.iload_n 2, 1) := by decide +kernel
theorem d14_22 : decode prog_103_method_19_code 22 = .ok (.iload_n 3, 1) := by decide +kernel
theorem d14_23 : decode prog_103_method_19_code 23 = .ok (.invokestatic 30, 3) := by decide +kernel
theorem pd_5 : parseMethodDescriptor "(II)I" = some ⟨[.int, .int], some .int⟩ := by decide +kernel
theorem d14_37 : decode prog_103_method_19_code 37 = .ok (.iload_n 2, 1) := by decide +kernel
theorem d14_38 : decode prog_103_method_19_code 38 = .ok (.iload_n 3, 1) := by decide +kernel
theorem d14_39 : decode prog_103_method_19_code 39 = .ok (.invokestatic 101, 3) := by decide +kernel
theorem d14_59 : decode prog_103_method_19_code 59 = .ok (.aload_n 0, 1) := by decide +kernel
theorem d14_60 : decode prog_103_method_19_code 60 = .ok (.iload_n 1, 1) := by decide +kernel
theorem d14_61 : decode prog_103_method_19_code 61 = .ok (.iload 5, 2) := by decide +kernel
theorem d14_63 : decode prog_103_method_19_code 63 = .ok (.iload 6, 2) := by decide +kernel
theorem d14_65 : decode prog_103_method_19_code 65 = .ok (.iconst 0, 1) := by decide +kernel
theorem d14_66 : decode prog_103_method_19_code 66 = .ok (.invokevirtual 107, 3) := by decide +kernel
theorem d14_69 : decode prog_103_method_19_code 69 = .ok (.istore 7, 2) := by decide +kernel
theorem d14_71 : decode prog_103_method_19_code 71 = .ok (.iload 7, 2) := by decide +kernel
theorem d14_73 : decode prog_103_method_19_code 73 = .ok (.ifCond .ge 86, 3) := by decide +kernel
theorem d14_76 : decode prog_103_method_19_code 76 = .ok (.aload_n 0, 1) := by decide +kernel
theorem d14_77 : decode prog_103_method_19_code 77 = .ok (.iload 5, 2) := by decide +kernel
theorem d14_79 : decode prog_103_method_19_code 79 = .ok (.invokevirtual 92, 3) := by decide +kernel
theorem d14_82 : decode prog_103_method_19_code 82 = .ok (.aload_n 0, 1) := by decide +kernel
theorem d14_83 : decode prog_103_method_19_code 83 = .ok (.iload 6, 2) := by decide +kernel
theorem d14_85 : decode prog_103_method_19_code 85 = .ok (.invokevirtual 92, 3) := by decide +kernel
theorem d14_88 : decode prog_103_method_19_code 88 = .ok (.invokestatic 30, 3) := by decide +kernel
theorem d14_91 : decode prog_103_method_19_code 91 = .ok (.istore 8, 2) := by decide +kernel
theorem d14_93 : decode prog_103_method_19_code 93 = .ok (.aload_n 0, 1) := by decide +kernel
theorem d14_94 : decode prog_103_method_19_code 94 = .ok (.iload 8, 2) := by decide +kernel
theorem d14_96 : decode prog_103_method_19_code 96 = .ok (.aload_n 0, 1) := by decide +kernel
theorem d14_97 : decode prog_103_method_19_code 97 = .ok (.iload_n 1, 1) := by decide +kernel
theorem d14_98 : decode prog_103_method_19_code 98 = .ok (.aload_n 0, 1) := by decide +kernel
theorem d14_99 : decode prog_103_method_19_code 99 = .ok (.iload 5, 2) := by decide +kernel
theorem d14_101 : decode prog_103_method_19_code 101 = .ok (.iload 8, 2) := by decide +kernel
theorem d14_103 : decode prog_103_method_19_code 103 = .ok (.iconst 0, 1) := by decide +kernel
theorem d14_104 : decode prog_103_method_19_code 104 = .ok (.invokevirtual 111, 3) := by decide +kernel
theorem pd_6 : parseMethodDescriptor "(IIZ)I" = some ⟨[.int, .int, .boolean], some .int⟩ := by decide +kernel
theorem d14_107 : decode prog_103_method_19_code 107 = .ok (.aload_n 0, 1) := by decide +kernel
theorem d14_108 : decode prog_103_method_19_code 108 = .ok (.iload 6, 2) := by decide +kernel
theorem d14_110 : decode prog_103_method_19_code 110 = .ok (.iload 8, 2) := by decide +kernel
theorem d14_112 : decode prog_103_method_19_code 112 = .ok (.iconst 0, 1) := by decide +kernel
theorem d14_113 : decode prog_103_method_19_code 113 = .ok (.invokevirtual 111, 3) := by decide +kernel
theorem d14_116 : decode prog_103_method_19_code 116 = .ok (.invokevirtual 77, 3) := by decide +kernel
theorem d14_119 : decode prog_103_method_19_code 119 = .ok (.aload_n 0, 1) := by decide +kernel
theorem d14_120 : decode prog_103_method_19_code 120 = .ok (.iload_n 1, 1) := by decide +kernel
theorem d14_121 : decode prog_103_method_19_code 121 = .ok (.aload_n 0, 1) := by decide +kernel
theorem d14_122 : decode prog_103_method_19_code 122 = .ok (.iload 5, 2) := by decide +kernel
theorem d14_124 : decode prog_103_method_19_code 124 = .ok (.iload 8, 2) := by decide +kernel
theorem d14_126 : decode prog_103_method_19_code 126 = .ok (.iconst 1, 1) := by decide +kernel
theorem d14_127 : decode prog_103_method_19_code 127 = .ok (.invokevirtual 111, 3) := by decide +kernel
theorem d14_130 : decode prog_103_method_19_code 130 = .ok (.aload_n 0, 1) := by decide +kernel
theorem d14_131 : decode prog_103_method_19_code 131 = .ok (.iload 6, 2) := by decide +kernel
theorem d14_133 : decode prog_103_method_19_code 133 = .ok (.iload 8, 2) := by decide +kernel
theorem d14_135 : decode prog_103_method_19_code 135 = .ok (.iconst 1, 1) := by decide +kernel
theorem d14_136 : decode prog_103_method_19_code 136 = .ok (.invokevirtual 111, 3) := by decide +kernel
theorem d14_139 : decode prog_103_method_19_code 139 = .ok (.invokevirtual 77, 3) := by decide +kernel
theorem d14_142 : decode prog_103_method_19_code 142 = .ok (.invokevirtual 73, 3) := by decide +kernel
theorem d14_145 : decode prog_103_method_19_code 145 = .ok (.istore 7, 2) := by decide +kernel
theorem d14_147 : decode prog_103_method_19_code 147 = .ok (.aload_n 0, 1) := by decide +kernel
theorem d14_148 : decode prog_103_method_19_code 148 = .ok (.iload_n 1, 1) := by decide +kernel
theorem d14_149 : decode prog_103_method_19_code 149 = .ok (.iload 5, 2) := by decide +kernel
theorem d14_151 : decode prog_103_method_19_code 151 = .ok (.iload 6, 2) := by decide +kernel
theorem d14_153 : decode prog_103_method_19_code 153 = .ok (.iconst 0, 1) := by decide +kernel
theorem d14_154 : decode prog_103_method_19_code 154 = .ok (.iload 7, 2) := by decide +kernel
theorem d14_156 : decode prog_103_method_19_code 156 = .ok (.invokevirtual 118, 3) := by decide +kernel
theorem pd_7 : parseMethodDescriptor "(IIIII)V" = some ⟨[.int, .int, .int, .int, .int], none⟩ := by decide +kernel
theorem d17_0 : decode prog_103_method_5_code 0 = .ok (.aload_n 0, 1) := by decide +kernel
theorem d17_1 : decode prog_103_method_5_code 1 = .ok (.iconst 0, 1) := by decide +kernel
theorem d17_2 : decode prog_103_method_5_code 2 = .ok (.iload_n 1, 1) := by decide +kernel
theorem d17_3 : decode prog_103_method_5_code 3 = .ok (.iload_n 2, 1) := by decide +kernel
theorem d17_4 : decode prog_103_method_5_code 4 = .ok (.invokevirtual 77, 3) := by decide +kernel
theorem d17_7 : decode prog_103_method_5_code 7 = .ok (.ireturn, 1) := by decide +kernel
theorem d13_0 : decode prog_103_method_6_code 0 = .ok (.aload_n 0, 1) := by decide +kernel
theorem d13_1 : decode prog_103_method_6_code 1 = .ok (.iconst 1, 1) := by decide +kernel
theorem d13_2 : decode prog_103_method_6_code 2 = .ok (.iload_n 1, 1) := by decide +kernel
theorem d13_3 : decode prog_103_method_6_code 3 = .ok (.iload_n 2, 1) := by decide +kernel
theorem d13_4 : decode prog_103_method_6_code 4 = .ok (.invokevirtual 77, 3) := by decide +kernel
theorem d13_7 : decode prog_103_method_6_code 7 = .ok (.ireturn, 1) := by decide +kernel
theorem d30_0 : decode prog_103_method_7_code 0 = .ok (.aload_n 0, 1) := by decide +kernel
theorem d30_1 : decode prog_103_method_7_code 1 = .ok (.iconst 5, 1) := by decide +kernel
theorem d30_2 : decode prog_103_method_7_code 2 = .ok (.iload_n 1, 1) := by decide +kernel
theorem d30_3 : decode prog_103_method_7_code 3 = .ok (.iload_n 2, 1) := by decide +kernel
theorem d30_4 : decode prog_103_method_7_code 4 = .ok (.invokevirtual 77, 3) := by decide +kernel
theorem d30_7 : decode prog_103_method_7_code 7 = .ok (.ireturn, 1) := by decide +kernel
theorem d29_0 : decode prog_103_method_4_code 0 = .ok (.aload_n 0, 1) := by decide +kernel
theorem d29_1 : decode prog_103_method_4_code 1 = .ok (.iconst 2, 1) := by decide +kernel
theorem d29_2 : decode prog_103_method_4_code 2 = .ok (.iload_n 1, 1) := by decide +kernel
theorem d29_3 : decode prog_103_method_4_code 3 = .ok (.iconst 1, 1) := by decide +kernel
theorem d29_4 : decode prog_103_method_4_code 4 = .ok (.invokevirtual 77, 3) := by decide +kernel
theorem d29_7 : decode prog_103_method_4_code 7 = .ok (.ireturn, 1) := by decide +kernel
theorem d28_0 : decode prog_103_method_8_code 0 = .ok (.aload_n 0, 1) := by decide +kernel
theorem d28_1 : decode prog_103_method_8_code 1 = .ok (.aload_n 0, 1) := by decide +kernel
theorem d28_2 : decode prog_103_method_8_code 2 = .ok (.iconst 2, 1) := by decide +kernel
theorem d28_3 : decode prog_103_method_8_code 3 = .ok (.iload_n 1, 1) := by decide +kernel
theorem d28_4 : decode prog_103_method_8_code 4 = .ok (.iload_n 2, 1) := by decide +kernel
theorem d28_5 : decode prog_103_method_8_code 5 = .ok (.invokevirtual 77, 3) := by decide +kernel
theorem d28_8 : decode prog_103_method_8_code 8 = .ok (.invokevirtual 80, 3) := by decide +kernel
theorem d28_11 : decode prog_103_method_8_code 11 = .ok (.ireturn, 1) := by decide +kernel
theorem d12_0 : decode method_3_code 0 = .ok (.iload_n 1, 1) := by decide +kernel
theorem d12_1 : decode method_3_code 1 = .ok (.ifCond .ne 10, 3) := by decide +kernel
theorem d12_4 : decode method_3_code 4 = .ok (.aload_n 0, 1) := by decide +kernel
theorem d12_5 : decode method_3_code 5 = .ok (.iload_n 2, 1) := by decide +kernel
theorem d12_6 : decode method_3_code 6 = .ok (.iload_n 3, 1) := by decide +kernel
theorem d12_7 : decode method_3_code 7 = .ok (.invokevirtual 38, 3) := by decide +kernel
theorem d12_10 : decode method_3_code 10 = .ok (.ireturn, 1) := by decide +kernel
theorem d12_11 : decode method_3_code 11 = .ok (.iload_n 1, 1) := by decide +kernel
theorem d12_12 : decode method_3_code 12 = .ok (.iconst 1, 1) := by decide +kernel
theorem d12_13 : decode method_3_code 13 = .ok (.if_icmp .ne 10, 3) := by decide +kernel
theorem d12_16 : decode method_3_code 16 = .ok (.aload_n 0, 1) := by decide +kernel
theorem d12_17 : decode method_3_code 17 = .ok (.iload_n 2, 1) := by decide +kernel
theorem d12_18 : decode method_3_code 18 = .ok (.iload_n 3, 1) := by decide +kernel
theorem d12_19 : decode method_3_code 19 = .ok (.invokevirtual 42, 3) := by decide +kernel
theorem d12_22 : decode method_3_code 22 = .ok (.ireturn, 1) := by decide +kernel
theorem d12_23 : decode method_3_code 23 = .ok (.iload_n 1, 1) := by decide +kernel
theorem d12_24 : decode method_3_code 24 = .ok (.iconst 2, 1) := by decide +kernel
theorem d12_25 : decode method_3_code 25 = .ok (.if_icmp .ne 10, 3) := by decide +kernel
theorem d12_28 : decode method_3_code 28 = .ok (.aload_n 0, 1) := by decide +kernel
theorem d12_29 : decode method_3_code 29 = .ok (.iload_n 2, 1) := by decide +kernel
theorem d12_30 : decode method_3_code 30 = .ok (.iload_n 3, 1) := by decide +kernel
theorem d12_31 : decode method_3_code 31 = .ok (.invokevirtual 45, 3) := by decide +kernel
theorem d12_34 : decode method_3_code 34 = .ok (.ireturn, 1) := by decide +kernel
theorem d12_35 : decode method_3_code 35 = .ok (.aload_n 0, 1) := by decide +kernel
theorem d12_36 : decode method_3_code 36 = .ok (.iload_n 2, 1) := by decide +kernel
theorem d12_37 : decode method_3_code 37 = .ok (.iload_n 3, 1) := by decide +kernel
theorem d12_38 : decode method_3_code 38 = .ok (.invokevirtual 48, 3) := by decide +kernel
theorem d12_41 : decode method_3_code 41 = .ok (.ireturn, 1) := by decide +kernel
theorem pn_1 : plainName "com/example/decider/decider/logic/bdd/BddEvaluatePinLaw" = true := by first | (simp [plainName, overriddenIn]; done) | decide +kernel
theorem d25_0 : decode method_4_code 0 = .ok (.iload_n 0, 1) := by decide +kernel
theorem d25_1 : decode method_4_code 1 = .ok (.ifCond .ne 5, 3) := by decide +kernel
theorem d25_4 : decode method_4_code 4 = .ok (.iconst 0, 1) := by decide +kernel
theorem d25_5 : decode method_4_code 5 = .ok (.ireturn, 1) := by decide +kernel
theorem d25_6 : decode method_4_code 6 = .ok (.iload_n 0, 1) := by decide +kernel
theorem d25_7 : decode method_4_code 7 = .ok (.iconst 1, 1) := by decide +kernel
theorem d25_8 : decode method_4_code 8 = .ok (.if_icmp .ne 5, 3) := by decide +kernel
theorem d25_11 : decode method_4_code 11 = .ok (.iconst 1, 1) := by decide +kernel
theorem d25_12 : decode method_4_code 12 = .ok (.ireturn, 1) := by decide +kernel
theorem d25_13 : decode method_4_code 13 = .ok (.aload_n 1, 1) := by decide +kernel
theorem d25_14 : decode method_4_code 14 = .ok (.iload_n 0, 1) := by decide +kernel
theorem d25_15 : decode method_4_code 15 = .ok (.iconst 2, 1) := by decide +kernel
theorem d25_16 : decode method_4_code 16 = .ok (.isub, 1) := by decide +kernel
theorem d25_17 : decode method_4_code 17 = .ok (.baload, 1) := by decide +kernel
theorem d25_18 : decode method_4_code 18 = .ok (.ireturn, 1) := by decide +kernel
theorem d26_0 : decode method_5_code 0 = .ok (.iload_n 0, 1) := by decide +kernel
theorem d26_1 : decode method_5_code 1 = .ok (.ifCond .ne 17, 3) := by decide +kernel
theorem d26_4 : decode method_5_code 4 = .ok (.iload_n 1, 1) := by decide +kernel
theorem d26_5 : decode method_5_code 5 = .ok (.ifCond .eq 11, 3) := by decide +kernel
theorem d26_16 : decode method_5_code 16 = .ok (.iconst 0, 1) := by decide +kernel
theorem d26_17 : decode method_5_code 17 = .ok (.ireturn, 1) := by decide +kernel
theorem d26_8 : decode method_5_code 8 = .ok (.iload_n 2, 1) := by decide +kernel
theorem d26_9 : decode method_5_code 9 = .ok (.ifCond .eq 7, 3) := by decide +kernel
theorem d26_12 : decode method_5_code 12 = .ok (.iconst 1, 1) := by decide +kernel
theorem d26_13 : decode method_5_code 13 = .ok (.goto 4, 3) := by decide +kernel
theorem d26_18 : decode method_5_code 18 = .ok (.iload_n 0, 1) := by decide +kernel
theorem d26_19 : decode method_5_code 19 = .ok (.iconst 1, 1) := by decide +kernel
theorem d26_20 : decode method_5_code 20 = .ok (.if_icmp .ne 17, 3) := by decide +kernel
theorem d26_23 : decode method_5_code 23 = .ok (.iload_n 1, 1) := by decide +kernel
theorem d26_24 : decode method_5_code 24 = .ok (.ifCond .ne 7, 3) := by decide +kernel
theorem d26_27 : decode method_5_code 27 = .ok (.iload_n 2, 1) := by decide +kernel
theorem d26_28 : decode method_5_code 28 = .ok (.ifCond .eq 7, 3) := by decide +kernel
theorem d26_35 : decode method_5_code 35 = .ok (.iconst 0, 1) := by decide +kernel
theorem d26_36 : decode method_5_code 36 = .ok (.ireturn, 1) := by decide +kernel
theorem d26_31 : decode method_5_code 31 = .ok (.iconst 1, 1) := by decide +kernel
theorem d26_32 : decode method_5_code 32 = .ok (.goto 4, 3) := by decide +kernel
theorem d26_37 : decode method_5_code 37 = .ok (.iload_n 0, 1) := by decide +kernel
theorem d26_38 : decode method_5_code 38 = .ok (.iconst 2, 1) := by decide +kernel
theorem d26_39 : decode method_5_code 39 = .ok (.if_icmp .ne 17, 3) := by decide +kernel
theorem d26_42 : decode method_5_code 42 = .ok (.iload_n 1, 1) := by decide +kernel
theorem d26_43 : decode method_5_code 43 = .ok (.ifCond .eq 11, 3) := by decide +kernel
theorem d26_54 : decode method_5_code 54 = .ok (.iconst 0, 1) := by decide +kernel
theorem d26_55 : decode method_5_code 55 = .ok (.ireturn, 1) := by decide +kernel
theorem d26_46 : decode method_5_code 46 = .ok (.iload_n 2, 1) := by decide +kernel
theorem d26_47 : decode method_5_code 47 = .ok (.ifCond .ne 7, 3) := by decide +kernel
theorem d26_50 : decode method_5_code 50 = .ok (.iconst 1, 1) := by decide +kernel
theorem d26_51 : decode method_5_code 51 = .ok (.goto 4, 3) := by decide +kernel
theorem d26_56 : decode method_5_code 56 = .ok (.iload_n 1, 1) := by decide +kernel
theorem d26_57 : decode method_5_code 57 = .ok (.iload_n 2, 1) := by decide +kernel
theorem d26_58 : decode method_5_code 58 = .ok (.if_icmp .ne 7, 3) := by decide +kernel
theorem d26_61 : decode method_5_code 61 = .ok (.iconst 1, 1) := by decide +kernel
theorem d26_62 : decode method_5_code 62 = .ok (.goto 4, 3) := by decide +kernel
theorem d26_66 : decode method_5_code 66 = .ok (.ireturn, 1) := by decide +kernel
theorem d26_65 : decode method_5_code 65 = .ok (.iconst 0, 1) := by decide +kernel
theorem d27_0 : decode prog_103_method_14_code 0 = .ok (.iload_n 1, 1) := by decide +kernel
theorem d27_1 : decode prog_103_method_14_code 1 = .ok (.istore_n 3, 1) := by decide +kernel
theorem d27_2 : decode prog_103_method_14_code 2 = .ok (.iload_n 3, 1) := by decide +kernel
theorem d27_3 : decode prog_103_method_14_code 3 = .ok (.iconst 1, 1) := by decide +kernel
theorem d27_4 : decode prog_103_method_14_code 4 = .ok (.if_icmp .le 30, 3) := by decide +kernel
theorem d27_7 : decode prog_103_method_14_code 7 = .ok (.aload_n 2, 1) := by decide +kernel
theorem d27_8 : decode prog_103_method_14_code 8 = .ok (.aload_n 0, 1) := by decide +kernel
theorem d27_9 : decode prog_103_method_14_code 9 = .ok (.iload_n 3, 1) := by decide +kernel
theorem d27_10 : decode prog_103_method_14_code 10 = .ok (.invokevirtual 92, 3) := by decide +kernel
theorem d27_13 : decode prog_103_method_14_code 13 = .ok (.baload, 1) := by decide +kernel
theorem d27_14 : decode prog_103_method_14_code 14 = .ok (.ifCond .eq 11, 3) := by decide +kernel
theorem d27_25 : decode prog_103_method_14_code 25 = .ok (.aload_n 0, 1) := by decide +kernel
theorem d27_26 : decode prog_103_method_14_code 26 = .ok (.iload_n 3, 1) := by decide +kernel
theorem d27_27 : decode prog_103_method_14_code 27 = .ok (.invokevirtual 137, 3) := by decide +kernel
theorem d27_30 : decode prog_103_method_14_code 30 = .ok (.istore_n 3, 1) := by decide +kernel
theorem d27_31 : decode prog_103_method_14_code 31 = .ok (.goto (-29), 3) := by decide +kernel
theorem d27_17 : decode prog_103_method_14_code 17 = .ok (.aload_n 0, 1) := by decide +kernel
theorem d27_18 : decode prog_103_method_14_code 18 = .ok (.iload_n 3, 1) := by decide +kernel
theorem d27_19 : decode prog_103_method_14_code 19 = .ok (.invokevirtual 104, 3) := by decide +kernel
theorem d27_22 : decode prog_103_method_14_code 22 = .ok (.goto 8, 3) := by decide +kernel
theorem d27_34 : decode prog_103_method_14_code 34 = .ok (.iload_n 3, 1) := by decide +kernel
theorem d27_35 : decode prog_103_method_14_code 35 = .ok (.iconst 1, 1) := by decide +kernel
theorem d27_36 : decode prog_103_method_14_code 36 = .ok (.if_icmp .ne 7, 3) := by decide +kernel
theorem d27_39 : decode prog_103_method_14_code 39 = .ok (.iconst 1, 1) := by decide +kernel
theorem d27_40 : decode prog_103_method_14_code 40 = .ok (.goto 4, 3) := by decide +kernel
theorem d27_44 : decode prog_103_method_14_code 44 = .ok (.ireturn, 1) := by decide +kernel
theorem d27_43 : decode prog_103_method_14_code 43 = .ok (.iconst 0, 1) := by decide +kernel
theorem d6_0 : decode jdk_65_method_103_code 0 = .ok (.iconst 0, 1) := by decide +kernel
theorem d6_1 : decode jdk_65_method_103_code 1 = .ok (.istore_n 2, 1) := by decide +kernel
theorem d6_2 : decode jdk_65_method_103_code 2 = .ok (.aload_n 0, 1) := by decide +kernel
theorem d6_3 : decode jdk_65_method_103_code 3 = .ok (.arraylength, 1) := by decide +kernel
theorem d6_4 : decode jdk_65_method_103_code 4 = .ok (.istore_n 3, 1) := by decide +kernel
theorem d6_5 : decode jdk_65_method_103_code 5 = .ok (.iload_n 2, 1) := by decide +kernel
theorem d6_6 : decode jdk_65_method_103_code 6 = .ok (.iload_n 3, 1) := by decide +kernel
theorem d6_7 : decode jdk_65_method_103_code 7 = .ok (.if_icmp .ge 13, 3) := by decide +kernel
theorem d6_10 : decode jdk_65_method_103_code 10 = .ok (.aload_n 0, 1) := by decide +kernel
theorem d6_11 : decode jdk_65_method_103_code 11 = .ok (.iload_n 2, 1) := by decide +kernel
theorem d6_12 : decode jdk_65_method_103_code 12 = .ok (.iload_n 1, 1) := by decide +kernel
theorem d6_13 : decode jdk_65_method_103_code 13 = .ok (.iastore, 1) := by decide +kernel
theorem d6_14 : decode jdk_65_method_103_code 14 = .ok (.iinc 2 1, 3) := by decide +kernel
theorem d6_17 : decode jdk_65_method_103_code 17 = .ok (.goto (-12), 3) := by decide +kernel
theorem d6_20 : decode jdk_65_method_103_code 20 = .ok (.return_, 1) := by decide +kernel
theorem pn_2 : plainName "java/util/Arrays" = true := by first | (simp [plainName, overriddenIn]; done) | decide +kernel
theorem d5_0 : decode jdk_33_method_47_code 0 = .ok (.iload_n 0, 1) := by decide +kernel
theorem d5_1 : decode jdk_33_method_47_code 1 = .ok (.ifCond .gt 14, 3) := by decide +kernel
theorem d5_15 : decode jdk_33_method_47_code 15 = .ok (.bipush 31, 2) := by decide +kernel
theorem d5_17 : decode jdk_33_method_47_code 17 = .ok (.istore_n 1, 1) := by decide +kernel
theorem d5_18 : decode jdk_33_method_47_code 18 = .ok (.iload_n 0, 1) := by decide +kernel
theorem d5_19 : decode jdk_33_method_47_code 19 = .ok (.ldc_w 264, 3) := by decide +kernel
theorem d5_22 : decode jdk_33_method_47_code 22 = .ok (.if_icmp .lt 11, 3) := by decide +kernel
theorem d5_33 : decode jdk_33_method_47_code 33 = .ok (.iload_n 0, 1) := by decide +kernel
theorem d5_34 : decode jdk_33_method_47_code 34 = .ok (.sipush 256, 3) := by decide +kernel
theorem d5_37 : decode jdk_33_method_47_code 37 = .ok (.if_icmp .lt 11, 3) := by decide +kernel
theorem d5_48 : decode jdk_33_method_47_code 48 = .ok (.iload_n 0, 1) := by decide +kernel
theorem d5_49 : decode jdk_33_method_47_code 49 = .ok (.bipush 16, 2) := by decide +kernel
theorem d5_51 : decode jdk_33_method_47_code 51 = .ok (.if_icmp .lt 10, 3) := by decide +kernel
theorem d5_54 : decode jdk_33_method_47_code 54 = .ok (.iinc 1 (-4), 3) := by decide +kernel
theorem d5_57 : decode jdk_33_method_47_code 57 = .ok (.iload_n 0, 1) := by decide +kernel
theorem d5_58 : decode jdk_33_method_47_code 58 = .ok (.iconst 4, 1) := by decide +kernel
theorem d5_59 : decode jdk_33_method_47_code 59 = .ok (.iushr, 1) := by decide +kernel
theorem d5_60 : decode jdk_33_method_47_code 60 = .ok (.istore_n 0, 1) := by decide +kernel
theorem d5_61 : decode jdk_33_method_47_code 61 = .ok (.iload_n 0, 1) := by decide +kernel
theorem d5_62 : decode jdk_33_method_47_code 62 = .ok (.iconst 4, 1) := by decide +kernel
theorem d5_63 : decode jdk_33_method_47_code 63 = .ok (.if_icmp .lt 10, 3) := by decide +kernel
theorem d5_73 : decode jdk_33_method_47_code 73 = .ok (.iload_n 1, 1) := by decide +kernel
theorem d5_74 : decode jdk_33_method_47_code 74 = .ok (.iload_n 0, 1) := by decide +kernel
theorem d5_75 : decode jdk_33_method_47_code 75 = .ok (.iconst 1, 1) := by decide +kernel
theorem d5_76 : decode jdk_33_method_47_code 76 = .ok (.iushr, 1) := by decide +kernel
theorem d5_77 : decode jdk_33_method_47_code 77 = .ok (.isub, 1) := by decide +kernel
theorem d5_78 : decode jdk_33_method_47_code 78 = .ok (.ireturn, 1) := by decide +kernel
theorem pn_3 : plainName "java/lang/Integer" = true := by first | (simp [plainName, overriddenIn]; done) | decide +kernel
theorem d4_0 : decode jdk_33_method_45_code 0 = .ok (.iload_n 0, 1) := by decide +kernel
theorem d4_1 : decode jdk_33_method_45_code 1 = .ok (.ldc 127, 2) := by decide +kernel
theorem d4_3 : decode jdk_33_method_45_code 3 = .ok (.iload_n 0, 1) := by decide +kernel
theorem d4_4 : decode jdk_33_method_45_code 4 = .ok (.invokestatic 51, 3) := by decide +kernel
theorem d4_7 : decode jdk_33_method_45_code 7 = .ok (.iushr, 1) := by decide +kernel
theorem d4_8 : decode jdk_33_method_45_code 8 = .ok (.iand, 1) := by decide +kernel
theorem d4_9 : decode jdk_33_method_45_code 9 = .ok (.ireturn, 1) := by decide +kernel
theorem d1_0 : decode prog_103_method_2_code 0 = .ok (.aload_n 0, 1) := by decide +kernel
theorem d1_1 : decode prog_103_method_2_code 1 = .ok (.invokespecial 13, 3) := by decide +kernel
theorem d1_4 : decode prog_103_method_2_code 4 = .ok (.iload_n 1, 1) := by decide +kernel
theorem d1_5 : decode prog_103_method_2_code 5 = .ok (.ifCond .lt 14, 3) := by decide +kernel
theorem d1_8 : decode prog_103_method_2_code 8 = .ok (.iload_n 2, 1) := by decide +kernel
theorem d1_9 : decode prog_103_method_2_code 9 = .ok (.iconst 2, 1) := by decide +kernel
theorem d1_10 : decode prog_103_method_2_code 10 = .ok (.if_icmp .lt 9, 3) := by decide +kernel
theorem d1_13 : decode prog_103_method_2_code 13 = .ok (.lload_n 3, 1) := by decide +kernel
theorem d1_14 : decode prog_103_method_2_code 14 = .ok (.lconst 0, 1) := by decide +kernel
theorem d1_15 : decode prog_103_method_2_code 15 = .ok (.lcmp, 1) := by decide +kernel
theorem d1_16 : decode prog_103_method_2_code 16 = .ok (.ifCond .ge 13, 3) := by decide +kernel
theorem d1_29 : decode prog_103_method_2_code 29 = .ok (.aload_n 0, 1) := by decide +kernel
theorem d1_30 : decode prog_103_method_2_code 30 = .ok (.iload_n 1, 1) := by decide +kernel
theorem d1_31 : decode prog_103_method_2_code 31 = .ok (.putfield 25, 3) := by decide +kernel
theorem d1_34 : decode prog_103_method_2_code 34 = .ok (.aload_n 0, 1) := by decide +kernel
theorem d1_35 : decode prog_103_method_2_code 35 = .ok (.iload_n 2, 1) := by decide +kernel
theorem d1_36 : decode prog_103_method_2_code 36 = .ok (.ldc 29, 2) := by decide +kernel
theorem d1_38 : decode prog_103_method_2_code 38 = .ok (.invokestatic 30, 3) := by decide +kernel
theorem d1_41 : decode prog_103_method_2_code 41 = .ok (.putfield 36, 3) := by decide +kernel
theorem d1_44 : decode prog_103_method_2_code 44 = .ok (.aload_n 0, 1) := by decide +kernel
theorem d1_45 : decode prog_103_method_2_code 45 = .ok (.lload_n 3, 1) := by decide +kernel
theorem d1_46 : decode prog_103_method_2_code 46 = .ok (.putfield 39, 3) := by decide +kernel
theorem d1_49 : decode prog_103_method_2_code 49 = .ok (.sipush 1024, 3) := by decide +kernel
theorem d1_52 : decode prog_103_method_2_code 52 = .ok (.aload_n 0, 1) := by decide +kernel
theorem d1_53 : decode prog_103_method_2_code 53 = .ok (.getfield 36, 3) := by decide +kernel
theorem d1_56 : decode prog_103_method_2_code 56 = .ok (.invokestatic 30, 3) := by decide +kernel
theorem d1_59 : decode prog_103_method_2_code 59 = .ok (.istore 5, 2) := by decide +kernel
theorem d1_61 : decode prog_103_method_2_code 61 = .ok (.aload_n 0, 1) := by decide +kernel
theorem d1_62 : decode prog_103_method_2_code 62 = .ok (.iconst 4, 1) := by decide +kernel
theorem d1_63 : decode prog_103_method_2_code 63 = .ok (.iload 5, 2) := by decide +kernel
theorem d1_65 : decode prog_103_method_2_code 65 = .ok (.imul, 1) := by decide +kernel
theorem d1_66 : decode prog_103_method_2_code 66 = .ok (.newarray .int, 2) := by decide +kernel
theorem d1_68 : decode prog_103_method_2_code 68 = .ok (.putfield 43, 3) := by decide +kernel
theorem d1_71 : decode prog_103_method_2_code 71 = .ok (.aload_n 0, 1) := by decide +kernel
theorem d1_72 : decode prog_103_method_2_code 72 = .ok (.iload 5, 2) := by decide +kernel
theorem d1_74 : decode prog_103_method_2_code 74 = .ok (.iconst 1, 1) := by decide +kernel
theorem d1_75 : decode prog_103_method_2_code 75 = .ok (.isub, 1) := by decide +kernel
theorem d1_76 : decode prog_103_method_2_code 76 = .ok (.invokestatic 47, 3) := by decide +kernel
theorem d1_79 : decode prog_103_method_2_code 79 = .ok (.iconst 1, 1) := by decide +kernel
theorem d1_80 : decode prog_103_method_2_code 80 = .ok (.ishl, 1) := by decide +kernel
theorem d1_81 : decode prog_103_method_2_code 81 = .ok (.newarray .int, 2) := by decide +kernel
theorem d1_83 : decode prog_103_method_2_code 83 = .ok (.putfield 51, 3) := by decide +kernel
theorem d1_86 : decode prog_103_method_2_code 86 = .ok (.aload_n 0, 1) := by decide +kernel
theorem d1_87 : decode prog_103_method_2_code 87 = .ok (.getfield 51, 3) := by decide +kernel
theorem d1_90 : decode prog_103_method_2_code 90 = .ok (.iconst (-1), 1) := by decide +kernel
theorem d1_91 : decode prog_103_method_2_code 91 = .ok (.invokestatic 54, 3) := by decide +kernel
theorem pd_8 : parseMethodDescriptor "([II)V" = some ⟨[(.array .int), .int], none⟩ := by decide +kernel
theorem d1_94 : decode prog_103_method_2_code 94 = .ok (.aload_n 0, 1) := by decide +kernel
theorem d1_95 : decode prog_103_method_2_code 95 = .ok (.bipush 10, 2) := by decide +kernel
theorem d1_97 : decode prog_103_method_2_code 97 = .ok (.putfield 60, 3) := by decide +kernel
theorem d1_100 : decode prog_103_method_2_code 100 = .ok (.aload_n 0, 1) := by decide +kernel
theorem d1_101 : decode prog_103_method_2_code 101 = .ok (.iconst 4, 1) := by decide +kernel
theorem d1_102 : decode prog_103_method_2_code 102 = .ok (.aload_n 0, 1) := by decide +kernel
theorem d1_103 : decode prog_103_method_2_code 103 = .ok (.getfield 60, 3) := by decide +kernel
theorem d1_106 : decode prog_103_method_2_code 106 = .ok (.ishl, 1) := by decide +kernel
theorem d1_107 : decode prog_103_method_2_code 107 = .ok (.newarray .int, 2) := by decide +kernel
theorem d1_109 : decode prog_103_method_2_code 109 = .ok (.putfield 63, 3) := by decide +kernel
theorem d1_112 : decode prog_103_method_2_code 112 = .ok (.aload_n 0, 1) := by decide +kernel
theorem d1_113 : decode prog_103_method_2_code 113 = .ok (.getfield 63, 3) := by decide +kernel
theorem d1_116 : decode prog_103_method_2_code 116 = .ok (.iconst (-1), 1) := by decide +kernel
theorem d1_117 : decode prog_103_method_2_code 117 = .ok (.invokestatic 54, 3) := by decide +kernel
theorem d1_120 : decode prog_103_method_2_code 120 = .ok (.aload_n 0, 1) := by decide +kernel
theorem d1_121 : decode prog_103_method_2_code 121 = .ok (.getfield 43, 3) := by decide +kernel
theorem d1_124 : decode prog_103_method_2_code 124 = .ok (.iconst 0, 1) := by decide +kernel
theorem d1_125 : decode prog_103_method_2_code 125 = .ok (.iload_n 1, 1) := by decide +kernel
theorem d1_126 : decode prog_103_method_2_code 126 = .ok (.iastore, 1) := by decide +kernel
theorem d1_127 : decode prog_103_method_2_code 127 = .ok (.aload_n 0, 1) := by decide +kernel
theorem d1_128 : decode prog_103_method_2_code 128 = .ok (.getfield 43, 3) := by decide +kernel
theorem d1_131 : decode prog_103_method_2_code 131 = .ok (.iconst 4, 1) := by decide +kernel
theorem d1_132 : decode prog_103_method_2_code 132 = .ok (.iload_n 1, 1) := by decide +kernel
theorem d1_133 : decode prog_103_method_2_code 133 = .ok (.iastore, 1) := by decide +kernel
theorem d1_134 : decode prog_103_method_2_code 134 = .ok (.aload_n 0, 1) := by decide +kernel
theorem d1_135 : decode prog_103_method_2_code 135 = .ok (.iconst 2, 1) := by decide +kernel
theorem d1_136 : decode prog_103_method_2_code 136 = .ok (.putfield 66, 3) := by decide +kernel
theorem d1_139 : decode prog_103_method_2_code 139 = .ok (.return_, 1) := by decide +kernel
theorem pd_9 : parseMethodDescriptor "(IIJ)V" = some ⟨[.int, .int, .long], none⟩ := by decide +kernel
theorem pd_10 : parseMethodDescriptor "(Lcom/example/decider/decider/logic/bdd/Bdd;III)I" = some ⟨[(.object "com/example/decider/decider/logic/bdd/Bdd"), .int, .int, .int], some .int⟩ := by decide +kernel
theorem pd_11 : parseMethodDescriptor "(I[Z)Z" = some ⟨[.int, (.array .boolean)], some .boolean⟩ := by decide +kernel
theorem pd_12 : parseMethodDescriptor "(IZZ)Z" = some ⟨[.int, .boolean, .boolean], some .boolean⟩ := by decide +kernel
abbrev OB : String := "com/example/decider/decider/logic/bdd/Bdd"
theorem own_w {Z : State} {a0 : Array Value} (hw : ∀ d ∈ tables_1, d.before a0 Z = true) (i : Nat) {d : Jvm.Cond} (h : tables_1[i]? = some d) : d.before a0 Z = true := hw _ (List.mem_of_getElem? h)
def own_I (ns : List Int32) : List Value := ns.map Value.int
theorem own_lenI (ns : List Int32) : (own_I ns).length = ns.length := by simp [own_I]
theorem own_getI (ns : List Int32) (i : Nat) : (own_I ns).getD i (.int 0) = .int (ns.getD i 0) := by
  simp only [own_I, List.getD_eq_getElem?_getD, List.getElem?_map]
  cases ns[i]? <;> rfl
theorem own_getI2 {j x : Nat} (ns : List Int32) (h : j = x) : (own_I ns).getD j (.int 0) = .int (ns.getD x 0) := by rw [h]; exact own_getI ns x
theorem own_setI (ns : List Int32) (i : Nat) (v : Int32) : (own_I ns).set i (.int v) = own_I (ns.set i v) := by simp only [own_I, List.map_set]
theorem own_arvI {Z : State} {h : Heap} {a : Addr} {k : ClassId} {ty : FieldType} {z : Int32} {ns : List Int32} {i : Nat} {v : Int32} {d : Value} (F : Arv Z h a k ty z ((own_I ns).set i (.int v)) d) : Arv Z h a k ty z (own_I (ns.set i v)) d := by rw [← own_setI]; exact F
theorem own_newI {Z : State} {h : Heap} {a : Addr} {k : ClassId} {ty : FieldType} {z : Int32} {n : Nat} (F : Arv Z h a k ty z [] (.int 0)) : Arv Z h a k ty z (own_I (List.replicate n 0)) (.int 0) :=
  F.pad fun i => by
    have e : own_I (List.replicate n 0) = [] ++ List.replicate n (.int 0) := by simp [own_I]
    rw [e]; exact pad_rep [] (.int 0) n i
theorem own_jn {j : Int32} {k : Nat} (h : j.toInt = k) : j.toNatClampNeg = k := by simp only [Int32.toNatClampNeg, h]; omega
theorem own_jb {j z : Int32} {k m : Nat} (h : j.toInt = k) (hz : z.toInt = m) (q : k < m) : ¬ j < 0 ∧ j < z := by
  have e : (0 : Int32).toInt = 0 := rfl
  rw [Int32.lt_iff_toInt_lt, Int32.lt_iff_toInt_lt, e]; omega
theorem own_ix0 (p : Int32) (i : Nat) (h : p.toInt = i) (hi : i < 1024) : ((4 : Int32) * p).toInt = ((4 * i : Nat) : Int) := by
  have a := c_imul 4 p
  have b := rng32 ((4 : Int32) * p)
  have e : (4 : Int32).toInt = 4 := rfl
  rw [e] at a
  omega
theorem own_ixc (j c : Int32) (i k : Nat) (h : j.toInt = i) (hc : c.toInt = k) (hi : i < 4096) (hk : k < 4) : (j + c).toInt = ((i + k : Nat) : Int) := by
  have a := c_iadd j c
  have b := rng32 (j + c)
  omega
def own_vr (ns : List Int32) (i : Nat) : Int := (ns.getD (4 * i) 0).toInt
def own_lo (ns : List Int32) (i : Nat) : Int := (ns.getD (4 * i + 1) 0).toInt
def own_hi (ns : List Int32) (i : Nat) : Int := (ns.getD (4 * i + 2) 0).toInt
def own_nx (ns : List Int32) (i : Nat) : Int := (ns.getD (4 * i + 3) 0).toInt
def own_nd (ns : List Int32) (i : Nat) : Prop :=
  (0 ≤ own_vr ns i ∧ own_vr ns i ≤ 2) ∧ (0 ≤ own_lo ns i ∧ own_lo ns i < i) ∧ (0 ≤ own_hi ns i ∧ own_hi ns i < i) ∧
  own_vr ns i < own_vr ns (own_lo ns i).toNat ∧ own_vr ns i < own_vr ns (own_hi ns i).toNat ∧ (own_nx ns i = -1 ∨ 2 ≤ own_nx ns i) ∧ own_nx ns i < i
def own_WF (ns : List Int32) (n : Nat) : Prop :=
  ns.length = 256 ∧ 2 ≤ n ∧ n ≤ 64 ∧ own_vr ns 0 = 3 ∧ own_vr ns 1 = 3 ∧ ∀ i, 2 ≤ i → i < n → own_nd ns i
def own_ev (ns : List Int32) (r : Int → Bool) : Nat → Nat → Bool
  | 0, i => i == 1
  | f + 1, i => if i ≤ 1 then i == 1 else if r (own_vr ns i) then own_ev ns r f (own_hi ns i).toNat else own_ev ns r f (own_lo ns i).toNat
def own_val (ns : List Int32) (r : Int → Bool) (i : Nat) : Bool := own_ev ns r 64 i
def own_agree (ns ns' : List Int32) (n : Nat) : Prop := ∀ j, j < 4 * n → ns'.getD j 0 = ns.getD j 0
def own_op (k : Int32) (x y : Bool) : Bool := if k = 0 then x && y else if k = 1 then x || y else if k = 5 then x && !y else x != y
def own_BK (bs : List Int32) (n : Nat) : Prop := bs.length = 64 ∧ ∀ j, j < 64 → ((bs.getD j 0).toInt = -1 ∨ 2 ≤ (bs.getD j 0).toInt) ∧ (bs.getD j 0).toInt < n
def own_ent (ns : List Int32) (n : Nat) (a b k r : Int32) : Prop :=
  (0 ≤ a.toInt ∧ a.toInt < n) ∧ (0 ≤ b.toInt ∧ b.toInt < n) ∧ (0 ≤ r.toInt ∧ r.toInt < n) ∧
  (own_vr ns a.toInt.toNat ≤ own_vr ns r.toInt.toNat ∨ own_vr ns b.toInt.toNat ≤ own_vr ns r.toInt.toNat) ∧
  ∀ q, own_val ns q r.toInt.toNat = own_op k (own_val ns q a.toInt.toNat) (own_val ns q b.toInt.toNat)
def own_CK (ns cs : List Int32) (n : Nat) : Prop := cs.length = 4096 ∧ ∀ e, e < 1024 → 0 ≤ (cs.getD (4 * e) 0).toInt →
  own_ent ns n (cs.getD (4 * e) 0) (cs.getD (4 * e + 1) 0) (cs.getD (4 * e + 2) 0) (cs.getD (4 * e + 3) 0)
def own_Inv (ns bs cs : List Int32) (n : Nat) : Prop := own_WF ns n ∧ own_BK bs n ∧ own_CK ns cs n
theorem own_vr_le {ns : List Int32} {n i : Nat} (h : own_WF ns n) (hi : i < n) : 0 ≤ own_vr ns i ∧ own_vr ns i ≤ 3 := by
  obtain ⟨-, -, -, h0, h1, h2⟩ := h
  match i, hi with
  | 0, _ => omega
  | 1, _ => omega
  | j + 2, hj => have := (h2 (j + 2) (by omega) hj).1; omega
theorem own_ev_fuel {ns : List Int32} {n : Nat} (h : own_WF ns n) (r : Int → Bool) : ∀ f g i, i < n → i ≤ f + 1 → i ≤ g + 1 → own_ev ns r f i = own_ev ns r g i := by
  intro f
  induction f with
  | zero =>
    intro g i hi h1 h2
    cases g with
    | zero => rfl
    | succ g => simp only [own_ev]; rw [if_pos (by omega)]
  | succ f ih =>
    intro g i hi h1 h2
    cases g with
    | zero => simp only [own_ev]; rw [if_pos (by omega)]
    | succ g =>
      simp only [own_ev]
      by_cases c : i ≤ 1
      · rw [if_pos c, if_pos c]
      · rw [if_neg c, if_neg c]
        obtain ⟨-, ⟨l1, l2⟩, ⟨k1, k2⟩, -⟩ := h.2.2.2.2.2 i (by omega) hi
        split
        · exact ih g _ (by omega) (by omega) (by omega)
        · exact ih g _ (by omega) (by omega) (by omega)
theorem own_val0 (ns : List Int32) (r : Int → Bool) : own_val ns r 0 = false := rfl
theorem own_val1 (ns : List Int32) (r : Int → Bool) : own_val ns r 1 = true := rfl
theorem own_val_nd {ns : List Int32} {n i : Nat} (h : own_WF ns n) (r : Int → Bool) (h2 : 2 ≤ i) (hi : i < n) : own_val ns r i = if r (own_vr ns i) then own_val ns r (own_hi ns i).toNat else own_val ns r (own_lo ns i).toNat := by
  obtain ⟨-, ⟨l1, l2⟩, ⟨k1, k2⟩, -⟩ := h.2.2.2.2.2 i h2 hi
  have hn := h.2.2.1
  show own_ev ns r 64 i = _
  rw [own_ev_fuel h r 64 65 i hi (by omega) (by omega)]
  show (if i ≤ 1 then i == 1 else if r (own_vr ns i) then own_ev ns r 64 (own_hi ns i).toNat else own_ev ns r 64 (own_lo ns i).toNat) = _
  rw [if_neg (by omega)]; rfl
theorem own_agree_flds {ns ns' : List Int32} {n i : Nat} (h : own_agree ns ns' n) (hi : i < n) : own_vr ns' i = own_vr ns i ∧ own_lo ns' i = own_lo ns i ∧ own_hi ns' i = own_hi ns i ∧ own_nx ns' i = own_nx ns i := by
  unfold own_vr own_lo own_hi own_nx
  rw [h (4 * i) (by omega), h (4 * i + 1) (by omega), h (4 * i + 2) (by omega), h (4 * i + 3) (by omega)]
  exact ⟨rfl, rfl, rfl, rfl⟩
theorem own_ev_agree {ns ns' : List Int32} {n : Nat} (h : own_WF ns n) (g : own_agree ns ns' n) (r : Int → Bool) : ∀ f i, i < n → own_ev ns' r f i = own_ev ns r f i := by
  intro f
  induction f with
  | zero => intro i _; rfl
  | succ f ih =>
    intro i hi
    simp only [own_ev]
    by_cases c : i ≤ 1
    · rw [if_pos c, if_pos c]
    · rw [if_neg c, if_neg c]
      obtain ⟨e1, e2, e3, -⟩ := own_agree_flds g hi
      obtain ⟨-, ⟨l1, l2⟩, ⟨k1, k2⟩, -⟩ := h.2.2.2.2.2 i (by omega) hi
      rw [e1, e2, e3, ih _ (by omega), ih _ (by omega)]
theorem own_val_agree {ns ns' : List Int32} {n i : Nat} (h : own_WF ns n) (g : own_agree ns ns' n) (r : Int → Bool) (hi : i < n) : own_val ns' r i = own_val ns r i := own_ev_agree h g r 64 i hi
theorem own_agree_refl (ns : List Int32) (n : Nat) : own_agree ns ns n := fun _ _ => rfl
theorem own_agree_trans {a b c : List Int32} {n m : Nat} (h : own_agree a b n) (g : own_agree b c m) (q : n ≤ m) : own_agree a c n := fun j hj => (g j (by omega)).trans (h j hj)
theorem own_ent_agree {ns ns' : List Int32} {n n' : Nat} {a b k r : Int32} (h : own_WF ns n) (g : own_agree ns ns' n) (q : n ≤ n') (E : own_ent ns n a b k r) : own_ent ns' n' a b k r := by
  obtain ⟨⟨a1, a2⟩, ⟨b1, b2⟩, ⟨r1, r2⟩, hv, he⟩ := E
  refine ⟨⟨a1, by omega⟩, ⟨b1, by omega⟩, ⟨r1, by omega⟩, ?_, fun z => ?_⟩
  · rw [(own_agree_flds g (show a.toInt.toNat < n by omega)).1, (own_agree_flds g (show b.toInt.toNat < n by omega)).1, (own_agree_flds g (show r.toInt.toNat < n by omega)).1]; exact hv
  · rw [own_val_agree h g z (show a.toInt.toNat < n by omega), own_val_agree h g z (show b.toInt.toNat < n by omega), own_val_agree h g z (show r.toInt.toNat < n by omega)]; exact he z
theorem own_CK_agree {ns ns' cs : List Int32} {n n' : Nat} (h : own_WF ns n) (g : own_agree ns ns' n) (q : n ≤ n') (C : own_CK ns cs n) : own_CK ns' cs n' := ⟨C.1, fun e he h0 => own_ent_agree h g q (C.2 e he h0)⟩
theorem own_BK_mono {bs : List Int32} {n n' : Nat} (q : n ≤ n') (B : own_BK bs n) : own_BK bs n' := ⟨B.1, fun j hj => ⟨(B.2 j hj).1, by have := (B.2 j hj).2; omega⟩⟩
/-- the four places of node n -/
def own_put (ns : List Int32) (at' : Nat) (v l h x : Int32) : List Int32 := ((((ns.set at' v).set (at' + 1) l).set (at' + 2) h).set (at' + 3) x)
theorem own_put_len (ns : List Int32) (at' : Nat) (v l h x : Int32) : (own_put ns at' v l h x).length = ns.length := by simp [own_put]
theorem own_getset (ns : List Int32) (i j : Nat) (v : Int32) (hi : i < ns.length) : (ns.set i v).getD j 0 = if j = i then v else ns.getD j 0 := by
  simp only [List.getD_eq_getElem?_getD]
  by_cases c : j = i
  · subst c; rw [if_pos rfl, List.getElem?_set_self hi]; rfl
  · rw [if_neg c, List.getElem?_set_ne (by omega)]
theorem own_put_get (ns : List Int32) (a j : Nat) (v l h x : Int32) (ha : a + 3 < ns.length) : (own_put ns a v l h x).getD j 0 = if j = a + 3 then x else if j = a + 2 then h else if j = a + 1 then l else if j = a then v else ns.getD j 0 := by
  unfold own_put
  rw [own_getset _ _ _ _ (by simp; omega), own_getset _ _ _ _ (by simp; omega), own_getset _ _ _ _ (by simp; omega), own_getset _ _ _ _ (by omega)]
theorem own_append {ns : List Int32} {n : Nat} {v l h x : Int32} (W : own_WF ns n) (hn : n < 64) (v1 : 0 ≤ v.toInt) (v2 : v.toInt ≤ 2) (l1 : 0 ≤ l.toInt) (l2 : l.toInt < n) (h1 : 0 ≤ h.toInt) (h2 : h.toInt < n)
    (vl : v.toInt < own_vr ns l.toInt.toNat) (vh : v.toInt < own_vr ns h.toInt.toNat) (x1 : x.toInt = -1 ∨ 2 ≤ x.toInt) (x2 : x.toInt < n) :
    own_WF (own_put ns (4 * n) v l h x) (n + 1) ∧ own_agree ns (own_put ns (4 * n) v l h x) n ∧ own_vr (own_put ns (4 * n) v l h x) n = v.toInt ∧ ∀ r, own_val (own_put ns (4 * n) v l h x) r n = if r v.toInt then own_val ns r h.toInt.toNat else own_val ns r l.toInt.toNat := by
  obtain ⟨w1, w2, w3, w4, w5, w6⟩ := W
  have hb : 4 * n + 3 < ns.length := by omega
  have ag : own_agree ns (own_put ns (4 * n) v l h x) n := fun j hj => by
    rw [own_put_get _ _ _ _ _ _ _ hb, if_neg (by omega), if_neg (by omega), if_neg (by omega), if_neg (by omega)]
  have ev : own_vr (own_put ns (4 * n) v l h x) n = v.toInt := by
    unfold own_vr; rw [own_put_get _ _ _ _ _ _ _ hb, if_neg (by omega), if_neg (by omega), if_neg (by omega), if_pos rfl]
  have el : own_lo (own_put ns (4 * n) v l h x) n = l.toInt := by
    unfold own_lo; rw [own_put_get _ _ _ _ _ _ _ hb, if_neg (by omega), if_neg (by omega), if_pos rfl]
  have eh : own_hi (own_put ns (4 * n) v l h x) n = h.toInt := by
    unfold own_hi; rw [own_put_get _ _ _ _ _ _ _ hb, if_neg (by omega), if_pos rfl]
  have ex : own_nx (own_put ns (4 * n) v l h x) n = x.toInt := by
    unfold own_nx; rw [own_put_get _ _ _ _ _ _ _ hb, if_pos rfl]
  have vlo := (own_agree_flds ag (show l.toInt.toNat < n by omega)).1
  have vhi := (own_agree_flds ag (show h.toInt.toNat < n by omega)).1
  have W' : own_WF (own_put ns (4 * n) v l h x) (n + 1) := by
    refine ⟨by rw [own_put_len]; exact w1, by omega, by omega, ?_, ?_, fun i hi hin => ?_⟩
    · rw [(own_agree_flds ag (show 0 < n by omega)).1]; exact w4
    · rw [(own_agree_flds ag (show 1 < n by omega)).1]; exact w5
    · by_cases c : i = n
      · subst c
        unfold own_nd
        rw [ev, el, eh, ex, vlo, vhi]
        exact ⟨⟨v1, v2⟩, ⟨l1, l2⟩, ⟨h1, h2⟩, vl, vh, x1, x2⟩
      · have hn' : i < n := by omega
        obtain ⟨q1, q2, q3, q4, q5, q6⟩ := w6 i hi hn'
        obtain ⟨e1, e2, e3, e4⟩ := own_agree_flds ag hn'
        unfold own_nd
        rw [e1, e2, e3, e4, (own_agree_flds ag (show (own_lo ns i).toNat < n by omega)).1, (own_agree_flds ag (show (own_hi ns i).toNat < n by omega)).1]
        exact ⟨q1, q2, q3, q4, q5, q6⟩
  refine ⟨W', ag, ev, fun r => ?_⟩
  rw [own_val_nd W' r (by omega) (by omega), ev, el, eh, own_val_agree ⟨w1, w2, w3, w4, w5, w6⟩ ag r (by omega), own_val_agree ⟨w1, w2, w3, w4, w5, w6⟩ ag r (by omega)]
theorem own_BK_set {bs : List Int32} {n j : Nat} {x : Int32} (B : own_BK bs n) (hn : 2 ≤ n) (hj : j < 64) (hx : x.toInt = n) : own_BK (bs.set j x) (n + 1) := by
  refine ⟨by simp [B.1], fun i hi => ?_⟩
  rw [own_getset _ _ _ _ (by rw [B.1]; exact hj)]
  have := B.2 i hi
  split <;> omega
theorem own_CK_put {ns cs : List Int32} {n e : Nat} {a b k r : Int32} (C : own_CK ns cs n) (he : e < 1024) (E : own_ent ns n a b k r) : own_CK ns (own_put cs (4 * e) a b k r) n := by
  have hb : 4 * e + 3 < cs.length := by rw [C.1]; omega
  refine ⟨by rw [own_put_len]; exact C.1, fun f hf h0 => ?_⟩
  by_cases c : f = e
  · subst c
    rw [own_put_get _ _ _ _ _ _ _ hb, own_put_get _ _ _ _ _ _ _ hb, own_put_get _ _ _ _ _ _ _ hb, own_put_get _ _ _ _ _ _ _ hb]
    rw [if_neg (by omega), if_neg (by omega), if_neg (by omega), if_pos rfl, if_neg (by omega), if_neg (by omega), if_pos rfl, if_neg (by omega), if_pos rfl, if_pos rfl]
    exact E
  · rw [own_put_get _ _ _ _ _ _ _ hb, if_neg (by omega), if_neg (by omega), if_neg (by omega), if_neg (by omega)] at h0 ⊢
    rw [own_put_get _ _ _ _ _ _ _ hb, own_put_get _ _ _ _ _ _ _ hb, own_put_get _ _ _ _ _ _ _ hb]
    rw [if_neg (by omega), if_neg (by omega), if_neg (by omega), if_neg (by omega), if_neg (by omega), if_neg (by omega), if_neg (by omega), if_neg (by omega), if_neg (by omega), if_neg (by omega), if_neg (by omega), if_neg (by omega)]
    exact C.2 f hf h0

def own_hash (p1 p2 p3 p4 : Int32) : Int32 := ((((((((p1 * (-1640531535 : Int32)) ^^^ p2) * (-2048144789 : Int32)) ^^^ p3) * (-1028477387 : Int32)) ^^^ p4) * (-1640531535 : Int32)) ^^^ (((((((((p1 * (-1640531535 : Int32)) ^^^ p2) * (-2048144789 : Int32)) ^^^ p3) * (-1028477387 : Int32)) ^^^ p4) * (-1640531535 : Int32)).toUInt32 >>> ((15 : Int32) &&& 31).toUInt32).toInt32))
def Qrm10 (Z : State) (p1 : Int32) (p2 : Int32) (p3 : Int32) (p4 : Int32) (h0 : Heap) (n0 : Nat) (v : Option Value) (h : Heap) (L : List Loc) : Prop := v = some (.int (own_hash p1 p2 p3 p4)) ∧ Fr n0 L ∧ h = h0
theorem efrm10 (m : MethodId) (x0 : Int32) (x1 : Int32) (x2 : Int32) (x3 : Int32) : entryFrame m #[(.int x0), (.int x1), (.int x2), (.int x3)] 5 = mkF m 0 #[.val (.int x0), .val (.int x1), .val (.int x2), .val (.int x3), .unset] [] := by first | (simp [entryFrame, mkF, argsToLocals, Value.category]; done) | rfl
set_option maxRecDepth 65536 in
set_option maxHeartbeats 40000000 in
theorem rm10 (l : Launch) (Z : State) (a0 : Array Value) (hw : ∀ d ∈ tables_1, d.before a0 Z = true) (ws : List Jvm.Cond) (p1 : Int32) (p2 : Int32) (p3 : Int32) (p4 : Int32) (h0 : Heap) (n0 : Nat) (Z0 : n0 ≤ h0.size)  :
    MetFree l (⟨OB, "hash", "(IIII)I"⟩ : MethodName) (head1 (Jvm.Cond.code (⟨OB, "hash", "(IIII)I"⟩ : MethodName) prog_103_method_31_code 5 (some .int) :: ws) ({ frames := 0, cells := 0, slots := 0, locals := 0 } : Room)) (fun a U => a = #[(.int p1), (.int p2), (.int p3), (.int p4)] ∧ Z.Warmed39 U.vm ∧ U.heap = h0) (fun _ _ _ _ _ => True) (fun _ U o U' => ∃ v L, o = .returned v ∧ Qrm10 Z p1 p2 p3 p4 h0 n0 v U'.heap L ∧ FrameEnd U o U' L ({ frames := 0, cells := 0, slots := 0, locals := 0 } : Room).cells ({ frames := 0, cells := 0, slots := 0, locals := 0 } : Room).slots) := by
  refine MetFree.of_bodySF (plainFor_of_name pn_0) hisR ?_
  intro p e s m args below meth c s₁ Bd hml0 hP hK
  obtain ⟨rfl, hZ, hh⟩ := hP
  have hx := Bd.exec
  have hby := Bd.bytes
  have hml : c.maxLocals = 5 := hml0
  have hown : s.vm.findClass OB = some m.cls := findClass_of_methodNamed Bd.named
  have hnm := (name_of_methodNamed Bd.named Bd.method).1
  have X0 : Stand p l e ({ frames := 0, cells := 0, slots := 0, locals := 0 } : Room) s m #[(.int p1), (.int p2), (.int p3), (.int p4)] below meth c s₁ [] 0 0 := Stand.of_body Bd
  have e0 : s₁.heap = h0 := by rw [← hh, Bd.state]; rfl
  have N0 := Fr.nil n0
  have K0 : Keep h0 h0 [] := Keep.refl h0 _
  refine own_go (B := s₁.setTop (mkF m 0 #[.val (.int p1), .val (.int p2), .val (.int p3), .val (.int p4), .unset] [])) (fun t k => castTop (efrm10 m p1 p2 p3 p4) k) ?_
  refine own_go (B := s₁.setTop (mkF m 41 #[.val (.int p1), .val (.int p2), .val (.int p3), .val (.int p4), .val (.int (((((((p1 * (-1640531535 : Int32)) ^^^ p2) * (-2048144789 : Int32)) ^^^ p3) * (-1028477387 : Int32)) ^^^ p4) * (-1640531535 : Int32)))] [(.int ((((((((p1 * (-1640531535 : Int32)) ^^^ p2) * (-2048144789 : Int32)) ^^^ p3) * (-1028477387 : Int32)) ^^^ p4) * (-1640531535 : Int32)) ^^^ (((((((((p1 * (-1640531535 : Int32)) ^^^ p2) * (-2048144789 : Int32)) ^^^ p3) * (-1028477387 : Int32)) ^^^ p4) * (-1640531535 : Int32)).toUInt32 >>> ((15 : Int32) &&& 31).toUInt32).toInt32)))])) (fun t k => ?_) ?_
  · refine XS.iloadN X0.here hx rfl (hb hby d10_0) rfl ?_
    refine X0.ldcInt hx hown (mvT hZ (own_w hw 63 rfl)) (g := (mkF m 1 #[.val (.int p1), .val (.int p2), .val (.int p3), .val (.int p4), .unset] [(.int p1)])) rfl (hb hby d10_1) _ ?_
    refine XS.imul X0.here hx rfl (hb hby d10_3) rfl ?_
    refine XS.istore X0.here hx rfl (hb hby d10_4) rfl (l' := #[.val (.int p1), .val (.int p2), .val (.int p3), .val (.int p4), .val (.int (p1 * (-1640531535 : Int32)))]) rfl ?_
    refine XS.iload X0.here hx rfl (hb hby d10_6) rfl ?_
    refine XS.iloadN X0.here hx rfl (hb hby d10_8) rfl ?_
    refine XS.ixor X0.here hx rfl (hb hby d10_9) rfl ?_
    refine X0.ldcInt hx hown (mvT hZ (own_w hw 64 rfl)) (g := (mkF m 10 #[.val (.int p1), .val (.int p2), .val (.int p3), .val (.int p4), .val (.int (p1 * (-1640531535 : Int32)))] [(.int ((p1 * (-1640531535 : Int32)) ^^^ p2))])) rfl (hb hby d10_10) _ ?_
    refine XS.imul X0.here hx rfl (hb hby d10_12) rfl ?_
    refine XS.istore X0.here hx rfl (hb hby d10_13) rfl (l' := #[.val (.int p1), .val (.int p2), .val (.int p3), .val (.int p4), .val (.int (((p1 * (-1640531535 : Int32)) ^^^ p2) * (-2048144789 : Int32)))]) rfl ?_
    refine XS.iload X0.here hx rfl (hb hby d10_15) rfl ?_
    refine XS.iloadN X0.here hx rfl (hb hby d10_17) rfl ?_
    refine XS.ixor X0.here hx rfl (hb hby d10_18) rfl ?_
    refine X0.ldcInt hx hown (mvT hZ (own_w hw 65 rfl)) (g := (mkF m 19 #[.val (.int p1), .val (.int p2), .val (.int p3), .val (.int p4), .val (.int (((p1 * (-1640531535 : Int32)) ^^^ p2) * (-2048144789 : Int32)))] [(.int ((((p1 * (-1640531535 : Int32)) ^^^ p2) * (-2048144789 : Int32)) ^^^ p3))])) rfl (hb hby d10_19) _ ?_
    refine XS.imul X0.here hx rfl (hb hby d10_21) rfl ?_
    refine XS.istore X0.here hx rfl (hb hby d10_22) rfl (l' := #[.val (.int p1), .val (.int p2), .val (.int p3), .val (.int p4), .val (.int (((((p1 * (-1640531535 : Int32)) ^^^ p2) * (-2048144789 : Int32)) ^^^ p3) * (-1028477387 : Int32)))]) rfl ?_
    refine XS.iload X0.here hx rfl (hb hby d10_24) rfl ?_
    refine XS.iloadN X0.here hx rfl (hb hby d10_26) rfl ?_
    refine XS.ixor X0.here hx rfl (hb hby d10_27) rfl ?_
    refine X0.ldcInt hx hown (mvT hZ (own_w hw 63 rfl)) (g := (mkF m 28 #[.val (.int p1), .val (.int p2), .val (.int p3), .val (.int p4), .val (.int (((((p1 * (-1640531535 : Int32)) ^^^ p2) * (-2048144789 : Int32)) ^^^ p3) * (-1028477387 : Int32)))] [(.int ((((((p1 * (-1640531535 : Int32)) ^^^ p2) * (-2048144789 : Int32)) ^^^ p3) * (-1028477387 : Int32)) ^^^ p4))])) rfl (hb hby d10_28) _ ?_
    refine XS.imul X0.here hx rfl (hb hby d10_30) rfl ?_
    refine XS.istore X0.here hx rfl (hb hby d10_31) rfl (l' := #[.val (.int p1), .val (.int p2), .val (.int p3), .val (.int p4), .val (.int (((((((p1 * (-1640531535 : Int32)) ^^^ p2) * (-2048144789 : Int32)) ^^^ p3) * (-1028477387 : Int32)) ^^^ p4) * (-1640531535 : Int32)))]) rfl ?_
    refine XS.iload X0.here hx rfl (hb hby d10_33) rfl ?_
    refine XS.iload X0.here hx rfl (hb hby d10_35) rfl ?_
    refine XS.bipush X0.here hx rfl (hb hby d10_37) ?_
    refine XS.iushr X0.here hx rfl (hb hby d10_39) rfl ?_
    refine XS.ixor X0.here hx rfl (hb hby d10_40) rfl ?_
    exact k
  obtain ⟨fs, hr, hrun, hended, hW, hsame⟩ := X0.leave (v := some (.int ((((((((p1 * (-1640531535 : Int32)) ^^^ p2) * (-2048144789 : Int32)) ^^^ p3) * (-1028477387 : Int32)) ^^^ p4) * (-1640531535 : Int32)) ^^^ (((((((((p1 * (-1640531535 : Int32)) ^^^ p2) * (-2048144789 : Int32)) ^^^ p3) * (-1028477387 : Int32)) ^^^ p4) * (-1640531535 : Int32)).toUInt32 >>> ((15 : Int32) &&& 31).toUInt32).toInt32)))) (fun h => by rw [Bd.returns] at h; cases h)
  refine ⟨_, _, ?_, hrun, hended, _, _, rfl, ?_, ⟨_, rfl⟩, hW, hsame.mono (by decide) (by decide)⟩
  · show Steps p.tables e below (s₁.setTop (mkF m 41 #[.val (.int p1), .val (.int p2), .val (.int p3), .val (.int p4), .val (.int (((((((p1 * (-1640531535 : Int32)) ^^^ p2) * (-2048144789 : Int32)) ^^^ p3) * (-1028477387 : Int32)) ^^^ p4) * (-1640531535 : Int32)))] [(.int ((((((((p1 * (-1640531535 : Int32)) ^^^ p2) * (-2048144789 : Int32)) ^^^ p3) * (-1028477387 : Int32)) ^^^ p4) * (-1640531535 : Int32)) ^^^ (((((((((p1 * (-1640531535 : Int32)) ^^^ p2) * (-2048144789 : Int32)) ^^^ p3) * (-1028477387 : Int32)) ^^^ p4) * (-1640531535 : Int32)).toUInt32 >>> ((15 : Int32) &&& 31).toUInt32).toInt32)))])) _
    exact retOut X0 hx Bd.returns rfl (Or.inl ⟨rfl, Or.inl rfl, _, rfl⟩) (hb hby d10_41) hr
  · show Qrm10 Z p1 p2 p3 p4 h0 n0 _ s₁.heap _
    rw [e0]
    exact ⟨rfl, N0, rfl⟩
def frm3 (p1 : Int32) (p2 : Int32) : Int32 := (if p2 < p1 then p2 else p1)
def Qrm3 (Z : State) (p1 : Int32) (p2 : Int32) (h0 : Heap) (n0 : Nat) (v : Option Value) (h : Heap) (L : List Loc) : Prop := v = some (.int (frm3 p1 p2)) ∧ Fr n0 L ∧ h = h0
theorem efrm3 (m : MethodId) (x0 : Int32) (x1 : Int32) : entryFrame m #[(.int x0), (.int x1)] 2 = mkF m 0 #[.val (.int x0), .val (.int x1)] [] := by first | (simp [entryFrame, mkF, argsToLocals, Value.category]; done) | rfl
set_option maxRecDepth 65536 in
set_option maxHeartbeats 40000000 in
theorem rm3 (l : Launch) (Z : State) (a0 : Array Value) (hw : ∀ d ∈ tables_1, d.before a0 Z = true) (ws : List Jvm.Cond) (p1 : Int32) (p2 : Int32) (h0 : Heap) (n0 : Nat) (Z0 : n0 ≤ h0.size)  :
    MetFree l (⟨"java/lang/Math", "min", "(II)I"⟩ : MethodName) (head1 (Jvm.Cond.code (⟨"java/lang/Math", "min", "(II)I"⟩ : MethodName) jdk_29_method_69_code 2 (some .int) :: ws) ({ frames := 0, cells := 0, slots := 0, locals := 0 } : Room)) (fun a U => a = #[(.int p1), (.int p2)] ∧ Z.Warmed39 U.vm ∧ U.heap = h0) (fun _ _ _ _ _ => True) (fun _ U o U' => ∃ v L, o = .returned v ∧ Qrm3 Z p1 p2 h0 n0 v U'.heap L ∧ FrameEnd U o U' L ({ frames := 0, cells := 0, slots := 0, locals := 0 } : Room).cells ({ frames := 0, cells := 0, slots := 0, locals := 0 } : Room).slots) := by
  refine MetFree.of_bodySF (Jvm.Free.JP.mathPlain rfl (by decide +kernel)) hisR ?_
  intro p e s m args below meth c s₁ Bd hml0 hP hK
  obtain ⟨rfl, hZ, hh⟩ := hP
  have hx := Bd.exec
  have hby := Bd.bytes
  have hml : c.maxLocals = 2 := hml0
  have hown : s.vm.findClass "java/lang/Math" = some m.cls := findClass_of_methodNamed Bd.named
  have hnm := (name_of_methodNamed Bd.named Bd.method).1
  have X0 : Stand p l e ({ frames := 0, cells := 0, slots := 0, locals := 0 } : Room) s m #[(.int p1), (.int p2)] below meth c s₁ [] 0 0 := Stand.of_body Bd
  have e0 : s₁.heap = h0 := by rw [← hh, Bd.state]; rfl
  have N0 := Fr.nil n0
  have K0 : Keep h0 h0 [] := Keep.refl h0 _
  refine own_go (B := s₁.setTop (mkF m 0 #[.val (.int p1), .val (.int p2)] [])) (fun t k => castTop (efrm3 m p1 p2) k) ?_
  refine own_go (B := s₁.setTop (mkF m 2 #[.val (.int p1), .val (.int p2)] [(.int p2), (.int p1)])) (fun t k => ?_) ?_
  · refine XS.iloadN X0.here hx rfl (hb hby d3_0) rfl ?_
    refine XS.iloadN X0.here hx rfl (hb hby d3_1) rfl ?_
    exact k
  by_cases hc2_1 : p2 < p1
  · refine own_go (B := s₁.setTop (mkF m 9 #[.val (.int p1), .val (.int p2)] [])) (fun t k => ?_) ?_
    · refine XS.icmpYes X0.here hx rfl (pc0 := 2) (pc' := 9) rfl (hb hby d3_2) rfl (tlt hc2_1).2.2.1 (by decide) (by decide) ?_
      exact k
    refine own_go (B := s₁.setTop (mkF m 10 #[.val (.int p1), .val (.int p2)] [(.int p2)])) (fun t k => ?_) ?_
    · refine XS.iloadN X0.here hx rfl (hb hby d3_9) rfl ?_
      exact k
    obtain ⟨fs, hr, hrun, hended, hW, hsame⟩ := X0.leave (v := some (.int p2)) (fun h => by rw [Bd.returns] at h; cases h)
    refine ⟨_, _, ?_, hrun, hended, _, _, rfl, ?_, ⟨_, rfl⟩, hW, hsame.mono (by decide) (by decide)⟩
    · show Steps p.tables e below (s₁.setTop (mkF m 10 #[.val (.int p1), .val (.int p2)] [(.int p2)])) _
      exact retOut X0 hx Bd.returns rfl (Or.inl ⟨rfl, Or.inl rfl, _, rfl⟩) (hb hby d3_10) hr
    · show Qrm3 Z p1 p2 h0 n0 _ s₁.heap _
      rw [e0]
      exact ⟨(by simp only [frm3, if_pos hc2_1]), N0, rfl⟩
  · refine own_go (B := s₁.setTop (mkF m 5 #[.val (.int p1), .val (.int p2)] [])) (fun t k => ?_) ?_
    · refine XS.icmpNo X0.here hx rfl (hb hby d3_2) rfl (flt hc2_1).2.2.1 ?_
      exact k
    refine own_go (B := s₁.setTop (mkF m 10 #[.val (.int p1), .val (.int p2)] [(.int p1)])) (fun t k => ?_) ?_
    · refine XS.iloadN X0.here hx rfl (hb hby d3_5) rfl ?_
      refine XS.goto X0.here hx rfl (pc0 := 6) (pc' := 10) rfl (hb hby d3_6) (by decide) (by decide) ?_
      exact k
    obtain ⟨fs, hr, hrun, hended, hW, hsame⟩ := X0.leave (v := some (.int p1)) (fun h => by rw [Bd.returns] at h; cases h)
    refine ⟨_, _, ?_, hrun, hended, _, _, rfl, ?_, ⟨_, rfl⟩, hW, hsame.mono (by decide) (by decide)⟩
    · show Steps p.tables e below (s₁.setTop (mkF m 10 #[.val (.int p1), .val (.int p2)] [(.int p1)])) _
      exact retOut X0 hx Bd.returns rfl (Or.inl ⟨rfl, Or.inl rfl, _, rfl⟩) (hb hby d3_10) hr
    · show Qrm3 Z p1 p2 h0 n0 _ s₁.heap _
      rw [e0]
      exact ⟨(by simp only [frm3, if_neg hc2_1]), N0, rfl⟩
def frm15 (p1 : Int32) (p2 : Int32) : Int32 := (if p1 < p2 then p2 else p1)
def Qrm15 (Z : State) (p1 : Int32) (p2 : Int32) (h0 : Heap) (n0 : Nat) (v : Option Value) (h : Heap) (L : List Loc) : Prop := v = some (.int (frm15 p1 p2)) ∧ Fr n0 L ∧ h = h0
theorem efrm15 (m : MethodId) (x0 : Int32) (x1 : Int32) : entryFrame m #[(.int x0), (.int x1)] 2 = mkF m 0 #[.val (.int x0), .val (.int x1)] [] := by first | (simp [entryFrame, mkF, argsToLocals, Value.category]; done) | rfl
set_option maxRecDepth 65536 in
set_option maxHeartbeats 40000000 in
theorem rm15 (l : Launch) (Z : State) (a0 : Array Value) (hw : ∀ d ∈ tables_1, d.before a0 Z = true) (ws : List Jvm.Cond) (p1 : Int32) (p2 : Int32) (h0 : Heap) (n0 : Nat) (Z0 : n0 ≤ h0.size)  :
    MetFree l (⟨"java/lang/Math", "max", "(II)I"⟩ : MethodName) (head1 (Jvm.Cond.code (⟨"java/lang/Math", "max", "(II)I"⟩ : MethodName) jdk_29_method_65_code 2 (some .int) :: ws) ({ frames := 0, cells := 0, slots := 0, locals := 0 } : Room)) (fun a U => a = #[(.int p1), (.int p2)] ∧ Z.Warmed39 U.vm ∧ U.heap = h0) (fun _ _ _ _ _ => True) (fun _ U o U' => ∃ v L, o = .returned v ∧ Qrm15 Z p1 p2 h0 n0 v U'.heap L ∧ FrameEnd U o U' L ({ frames := 0, cells := 0, slots := 0, locals := 0 } : Room).cells ({ frames := 0, cells := 0, slots := 0, locals := 0 } : Room).slots) := by
  refine MetFree.of_bodySF (Jvm.Free.JP.mathPlain rfl (by decide +kernel)) hisR ?_
  intro p e s m args below meth c s₁ Bd hml0 hP hK
  obtain ⟨rfl, hZ, hh⟩ := hP
  have hx := Bd.exec
  have hby := Bd.bytes
  have hml : c.maxLocals = 2 := hml0
  have hown : s.vm.findClass "java/lang/Math" = some m.cls := findClass_of_methodNamed Bd.named
  have hnm := (name_of_methodNamed Bd.named Bd.method).1
  have X0 : Stand p l e ({ frames := 0, cells := 0, slots := 0, locals := 0 } : Room) s m #[(.int p1), (.int p2)] below meth c s₁ [] 0 0 := Stand.of_body Bd
  have e0 : s₁.heap = h0 := by rw [← hh, Bd.state]; rfl
  have N0 := Fr.nil n0
  have K0 : Keep h0 h0 [] := Keep.refl h0 _
  refine own_go (B := s₁.setTop (mkF m 0 #[.val (.int p1), .val (.int p2)] [])) (fun t k => castTop (efrm15 m p1 p2) k) ?_
  refine own_go (B := s₁.setTop (mkF m 2 #[.val (.int p1), .val (.int p2)] [(.int p2), (.int p1)])) (fun t k => ?_) ?_
  · refine XS.iloadN X0.here hx rfl (hb hby d15_0) rfl ?_
    refine XS.iloadN X0.here hx rfl (hb hby d15_1) rfl ?_
    exact k
  by_cases hc2_2 : p1 < p2
  · refine own_go (B := s₁.setTop (mkF m 9 #[.val (.int p1), .val (.int p2)] [])) (fun t k => ?_) ?_
    · refine XS.icmpYes X0.here hx rfl (pc0 := 2) (pc' := 9) rfl (hb hby d15_2) rfl (tlt hc2_2).1 (by decide) (by decide) ?_
      exact k
    refine own_go (B := s₁.setTop (mkF m 10 #[.val (.int p1), .val (.int p2)] [(.int p2)])) (fun t k => ?_) ?_
    · refine XS.iloadN X0.here hx rfl (hb hby d15_9) rfl ?_
      exact k
    obtain ⟨fs, hr, hrun, hended, hW, hsame⟩ := X0.leave (v := some (.int p2)) (fun h => by rw [Bd.returns] at h; cases h)
    refine ⟨_, _, ?_, hrun, hended, _, _, rfl, ?_, ⟨_, rfl⟩, hW, hsame.mono (by decide) (by decide)⟩
    · show Steps p.tables e below (s₁.setTop (mkF m 10 #[.val (.int p1), .val (.int p2)] [(.int p2)])) _
      exact retOut X0 hx Bd.returns rfl (Or.inl ⟨rfl, Or.inl rfl, _, rfl⟩) (hb hby d15_10) hr
    · show Qrm15 Z p1 p2 h0 n0 _ s₁.heap _
      rw [e0]
      exact ⟨(by simp only [frm15, if_pos hc2_2]), N0, rfl⟩
  · refine own_go (B := s₁.setTop (mkF m 5 #[.val (.int p1), .val (.int p2)] [])) (fun t k => ?_) ?_
    · refine XS.icmpNo X0.here hx rfl (hb hby d15_2) rfl (flt hc2_2).1 ?_
      exact k
    refine own_go (B := s₁.setTop (mkF m 10 #[.val (.int p1), .val (.int p2)] [(.int p1)])) (fun t k => ?_) ?_
    · refine XS.iloadN X0.here hx rfl (hb hby d15_5) rfl ?_
      refine XS.goto X0.here hx rfl (pc0 := 6) (pc' := 10) rfl (hb hby d15_6) (by decide) (by decide) ?_
      exact k
    obtain ⟨fs, hr, hrun, hended, hW, hsame⟩ := X0.leave (v := some (.int p1)) (fun h => by rw [Bd.returns] at h; cases h)
    refine ⟨_, _, ?_, hrun, hended, _, _, rfl, ?_, ⟨_, rfl⟩, hW, hsame.mono (by decide) (by decide)⟩
    · show Steps p.tables e below (s₁.setTop (mkF m 10 #[.val (.int p1), .val (.int p2)] [(.int p1)])) _
      exact retOut X0 hx Bd.returns rfl (Or.inl ⟨rfl, Or.inl rfl, _, rfl⟩) (hb hby d15_10) hr
    · show Qrm15 Z p1 p2 h0 n0 _ s₁.heap _
      rw [e0]
      exact ⟨(by simp only [frm15, if_neg hc2_2]), N0, rfl⟩
def Qrm11 (Z : State) (a1 : Addr) (b1 : Addr) (k1 : ClassId) (ns : List Int32) (h0 : Heap) (n0 : Nat) (v : Option Value) (h : Heap) (L : List Loc) : Prop := v = some (.int (64 : Int32)) ∧ Fr n0 L ∧ h = h0
theorem efrm11 (m : MethodId) (x0 : Addr) : entryFrame m #[(.ref x0)] 1 = mkF m 0 #[.val (.ref x0)] [] := by first | (simp [entryFrame, mkF, argsToLocals, Value.category]; done) | rfl
set_option maxRecDepth 65536 in
set_option maxHeartbeats 40000000 in
theorem rm11 (l : Launch) (Z : State) (a0 : Array Value) (hw : ∀ d ∈ tables_1, d.before a0 Z = true) (ws : List Jvm.Cond) (a1 : Addr) (b1 : Addr) (k1 : ClassId) (ns : List Int32) (h0 : Heap) (n0 : Nat) (Z0 : n0 ≤ h0.size) (P0 : Fld Z h0 a1 OB "nodes" "[I" (.ref b1)) (P1 : Arv Z h0 b1 k1 .int (256 : Int32) (own_I ns) (.int (0 : Int32))) :
    MetFree l (⟨OB, "capacity", "()I"⟩ : MethodName) (head1 (Jvm.Cond.code (⟨OB, "capacity", "()I"⟩ : MethodName) prog_103_method_25_code 1 (some .int) :: ws) ({ frames := 0, cells := 0, slots := 0, locals := 0 } : Room)) (fun a U => a = #[(.ref a1)] ∧ Z.Warmed39 U.vm ∧ U.heap = h0) (fun _ _ _ _ _ => True) (fun _ U o U' => ∃ v L, o = .returned v ∧ Qrm11 Z a1 b1 k1 ns h0 n0 v U'.heap L ∧ FrameEnd U o U' L ({ frames := 0, cells := 0, slots := 0, locals := 0 } : Room).cells ({ frames := 0, cells := 0, slots := 0, locals := 0 } : Room).slots) := by
  refine MetFree.of_bodySF (plainFor_of_name pn_0) hisR ?_
  intro p e s m args below meth c s₁ Bd hml0 hP hK
  obtain ⟨rfl, hZ, hh⟩ := hP
  have hx := Bd.exec
  have hby := Bd.bytes
  have hml : c.maxLocals = 1 := hml0
  have hown : s.vm.findClass OB = some m.cls := findClass_of_methodNamed Bd.named
  have hnm := (name_of_methodNamed Bd.named Bd.method).1
  have X0 : Stand p l e ({ frames := 0, cells := 0, slots := 0, locals := 0 } : Room) s m #[(.ref a1)] below meth c s₁ [] 0 0 := Stand.of_body Bd
  have e0 : s₁.heap = h0 := by rw [← hh, Bd.state]; rfl
  have N0 := Fr.nil n0
  have K0 : Keep h0 h0 [] := Keep.refl h0 _
  refine own_go (B := s₁.setTop (mkF m 0 #[.val (.ref a1)] [])) (fun t k => castTop (efrm11 m a1) k) ?_
  refine own_go (B := s₁.setTop (mkF m 1 #[.val (.ref a1)] [(.ref a1)])) (fun t k => ?_) ?_
  · refine XS.aloadN X0.here hx rfl (hb hby d11_0) rfl rfl ?_
    exact k
  obtain ⟨T3, X3, e3, st3⟩ := getF X0 hx hZ hown (host := "") (Or.inl (own_w hw 24 rfl)) Via.refl e0 P0 (g := (mkF m 1 #[.val (.ref a1)] [(.ref a1)])) rfl rfl (hb hby d11_1)
  refine own_go st3 ?_
  obtain ⟨cl4, Ar4, q4, S4, M4, Ha4, G4⟩ := id P1
  refine own_go (B := T3.setTop (mkF m 5 #[.val (.ref a1)] [(.int (256 : Int32))])) (fun t k => ?_) ?_
  · refine X3.arraylength hx (by rw [e3]; exact Ar4.1) (State.isArrayOf_alike hZ.alike Ar4.2.1) (g := (mkF m 4 #[.val (.ref a1)] [(.ref b1)])) rfl rfl (hb hby d11_4) _ ?_
    rw [len_of S4 M4]
    exact k
  refine own_go (B := T3.setTop (mkF m 7 #[.val (.ref a1)] [(.int (64 : Int32))])) (fun t k => ?_) ?_
  · refine XS.iconst X3.here hx rfl (hb hby d11_5) ?_
    refine XS.idiv X3.here hx rfl (hb hby d11_6) rfl (by decide) ?_
    exact k
  obtain ⟨fs, hr, hrun, hended, hW, hsame⟩ := X3.leave (v := some (.int (64 : Int32))) (fun h => by rw [Bd.returns] at h; cases h)
  refine ⟨_, _, ?_, hrun, hended, _, _, rfl, ?_, ⟨_, rfl⟩, hW, hsame.mono (by decide) (by decide)⟩
  · show Steps p.tables e below (T3.setTop (mkF m 7 #[.val (.ref a1)] [(.int (64 : Int32))])) _
    exact retOut X3 hx Bd.returns rfl (Or.inl ⟨rfl, Or.inl rfl, _, rfl⟩) (hb hby d11_7) hr
  · show Qrm11 Z a1 b1 k1 ns h0 n0 _ T3.heap _
    rw [e3]
    exact ⟨rfl, N0, rfl⟩
def Qrm20 (Z : State) (a1 : Addr) (p2 : Int32) (b1 : Addr) (k1 : ClassId) (ns : List Int32) (i0 : Nat) (h0 : Heap) (n0 : Nat) (v : Option Value) (h : Heap) (L : List Loc) : Prop := v = some (.int (ns.getD (4 * i0) 0)) ∧ Fr n0 L ∧ h = h0
theorem efrm20 (m : MethodId) (x0 : Addr) (x1 : Int32) : entryFrame m #[(.ref x0), (.int x1)] 2 = mkF m 0 #[.val (.ref x0), .val (.int x1)] [] := by first | (simp [entryFrame, mkF, argsToLocals, Value.category]; done) | rfl
set_option maxRecDepth 65536 in
set_option maxHeartbeats 40000000 in
theorem rm20 (l : Launch) (Z : State) (a0 : Array Value) (hw : ∀ d ∈ tables_1, d.before a0 Z = true) (ws : List Jvm.Cond) (a1 : Addr) (p2 : Int32) (b1 : Addr) (k1 : ClassId) (ns : List Int32) (i0 : Nat) (h0 : Heap) (n0 : Nat) (Z0 : n0 ≤ h0.size) (P0 : Fld Z h0 a1 OB "nodes" "[I" (.ref b1)) (P1 : Arv Z h0 b1 k1 .int (256 : Int32) (own_I ns) (.int (0 : Int32))) (qi : p2.toInt = (i0 : Int)) (qb : i0 < 64) :
    MetFree l (⟨OB, "variableOf", "(I)I"⟩ : MethodName) (head1 (Jvm.Cond.code (⟨OB, "variableOf", "(I)I"⟩ : MethodName) prog_103_method_21_code 2 (some .int) :: ws) ({ frames := 0, cells := 0, slots := 0, locals := 0 } : Room)) (fun a U => a = #[(.ref a1), (.int p2)] ∧ Z.Warmed39 U.vm ∧ U.heap = h0) (fun _ _ _ _ _ => True) (fun _ U o U' => ∃ v L, o = .returned v ∧ Qrm20 Z a1 p2 b1 k1 ns i0 h0 n0 v U'.heap L ∧ FrameEnd U o U' L ({ frames := 0, cells := 0, slots := 0, locals := 0 } : Room).cells ({ frames := 0, cells := 0, slots := 0, locals := 0 } : Room).slots) := by
  refine MetFree.of_bodySF (plainFor_of_name pn_0) hisR ?_
  intro p e s m args below meth c s₁ Bd hml0 hP hK
  obtain ⟨rfl, hZ, hh⟩ := hP
  have hx := Bd.exec
  have hby := Bd.bytes
  have hml : c.maxLocals = 2 := hml0
  have hown : s.vm.findClass OB = some m.cls := findClass_of_methodNamed Bd.named
  have hnm := (name_of_methodNamed Bd.named Bd.method).1
  have X0 : Stand p l e ({ frames := 0, cells := 0, slots := 0, locals := 0 } : Room) s m #[(.ref a1), (.int p2)] below meth c s₁ [] 0 0 := Stand.of_body Bd
  have e0 : s₁.heap = h0 := by rw [← hh, Bd.state]; rfl
  have N0 := Fr.nil n0
  have K0 : Keep h0 h0 [] := Keep.refl h0 _
  refine own_go (B := s₁.setTop (mkF m 0 #[.val (.ref a1), .val (.int p2)] [])) (fun t k => castTop (efrm20 m a1 p2) k) ?_
  refine own_go (B := s₁.setTop (mkF m 1 #[.val (.ref a1), .val (.int p2)] [(.ref a1)])) (fun t k => ?_) ?_
  · refine XS.aloadN X0.here hx rfl (hb hby d20_0) rfl rfl ?_
    exact k
  obtain ⟨T5, X5, e5, st5⟩ := getF X0 hx hZ hown (host := "") (Or.inl (own_w hw 24 rfl)) Via.refl e0 P0 (g := (mkF m 1 #[.val (.ref a1), .val (.int p2)] [(.ref a1)])) rfl rfl (hb hby d20_1)
  refine own_go st5 ?_
  refine own_go (B := T5.setTop (mkF m 7 #[.val (.ref a1), .val (.int p2)] [(.int ((4 : Int32) * p2)), (.ref b1)])) (fun t k => ?_) ?_
  · refine XS.iconst X5.here hx rfl (hb hby d20_4) ?_
    refine XS.iloadN X5.here hx rfl (hb hby d20_5) rfl ?_
    refine XS.imul X5.here hx rfl (hb hby d20_6) rfl ?_
    exact k
  obtain ⟨cl6, Ar6, q6, S6, M6, Ha6, G6⟩ := id P1
  have hin6 : ¬ (((4 : Int32) * p2) < 0 ∨ cl6.slots.size ≤ (((4 : Int32) * p2)).toNatClampNeg) := inb_of S6 (own_jb (own_ix0 p2 i0 qi (by omega)) (m := 256) rfl (by omega))
  refine own_go (X5.iaload hx (j := ((4 : Int32) * p2)) (v := (.int (ns.getD (4 * i0) 0))) (by rw [e5]; exact Ar6.1) (State.isArrayOf_alike hZ.alike Ar6.2.1) Ar6.2.2 hin6 (Has.at Ha6 hin6 (own_getI2 _ (own_jn (own_ix0 p2 i0 qi (by omega))))) (g := (mkF m 7 #[.val (.ref a1), .val (.int p2)] [(.int ((4 : Int32) * p2)), (.ref b1)])) rfl rfl (hb hby d20_7)) ?_
  obtain ⟨fs, hr, hrun, hended, hW, hsame⟩ := X5.leave (v := some (.int (ns.getD (4 * i0) 0))) (fun h => by rw [Bd.returns] at h; cases h)
  refine ⟨_, _, ?_, hrun, hended, _, _, rfl, ?_, ⟨_, rfl⟩, hW, hsame.mono (by decide) (by decide)⟩
  · show Steps p.tables e below (T5.setTop (mkF m 8 #[.val (.ref a1), .val (.int p2)] [(.int (ns.getD (4 * i0) 0))])) _
    exact retOut X5 hx Bd.returns rfl (Or.inl ⟨rfl, Or.inl rfl, _, rfl⟩) (hb hby d20_8) hr
  · show Qrm20 Z a1 p2 b1 k1 ns i0 h0 n0 _ T5.heap _
    rw [e5]
    exact ⟨rfl, N0, rfl⟩
def Qrm22 (Z : State) (a1 : Addr) (p2 : Int32) (b1 : Addr) (k1 : ClassId) (ns : List Int32) (i0 : Nat) (h0 : Heap) (n0 : Nat) (v : Option Value) (h : Heap) (L : List Loc) : Prop := v = some (.int (ns.getD (4 * i0 + 1) 0)) ∧ Fr n0 L ∧ h = h0
theorem efrm22 (m : MethodId) (x0 : Addr) (x1 : Int32) : entryFrame m #[(.ref x0), (.int x1)] 2 = mkF m 0 #[.val (.ref x0), .val (.int x1)] [] := by first | (simp [entryFrame, mkF, argsToLocals, Value.category]; done) | rfl
set_option maxRecDepth 65536 in
set_option maxHeartbeats 40000000 in
theorem rm22 (l : Launch) (Z : State) (a0 : Array Value) (hw : ∀ d ∈ tables_1, d.before a0 Z = true) (ws : List Jvm.Cond) (a1 : Addr) (p2 : Int32) (b1 : Addr) (k1 : ClassId) (ns : List Int32) (i0 : Nat) (h0 : Heap) (n0 : Nat) (Z0 : n0 ≤ h0.size) (P0 : Fld Z h0 a1 OB "nodes" "[I" (.ref b1)) (P1 : Arv Z h0 b1 k1 .int (256 : Int32) (own_I ns) (.int (0 : Int32))) (qi : p2.toInt = (i0 : Int)) (qb : i0 < 64) :
    MetFree l (⟨OB, "low", "(I)I"⟩ : MethodName) (head1 (Jvm.Cond.code (⟨OB, "low", "(I)I"⟩ : MethodName) prog_103_method_22_code 2 (some .int) :: ws) ({ frames := 0, cells := 0, slots := 0, locals := 0 } : Room)) (fun a U => a = #[(.ref a1), (.int p2)] ∧ Z.Warmed39 U.vm ∧ U.heap = h0) (fun _ _ _ _ _ => True) (fun _ U o U' => ∃ v L, o = .returned v ∧ Qrm22 Z a1 p2 b1 k1 ns i0 h0 n0 v U'.heap L ∧ FrameEnd U o U' L ({ frames := 0, cells := 0, slots := 0, locals := 0 } : Room).cells ({ frames := 0, cells := 0, slots := 0, locals := 0 } : Room).slots) := by
  refine MetFree.of_bodySF (plainFor_of_name pn_0) hisR ?_
  intro p e s m args below meth c s₁ Bd hml0 hP hK
  obtain ⟨rfl, hZ, hh⟩ := hP
  have hx := Bd.exec
  have hby := Bd.bytes
  have hml : c.maxLocals = 2 := hml0
  have hown : s.vm.findClass OB = some m.cls := findClass_of_methodNamed Bd.named
  have hnm := (name_of_methodNamed Bd.named Bd.method).1
  have X0 : Stand p l e ({ frames := 0, cells := 0, slots := 0, locals := 0 } : Room) s m #[(.ref a1), (.int p2)] below meth c s₁ [] 0 0 := Stand.of_body Bd
  have e0 : s₁.heap = h0 := by rw [← hh, Bd.state]; rfl
  have N0 := Fr.nil n0
  have K0 : Keep h0 h0 [] := Keep.refl h0 _
  refine own_go (B := s₁.setTop (mkF m 0 #[.val (.ref a1), .val (.int p2)] [])) (fun t k => castTop (efrm22 m a1 p2) k) ?_
  refine own_go (B := s₁.setTop (mkF m 1 #[.val (.ref a1), .val (.int p2)] [(.ref a1)])) (fun t k => ?_) ?_
  · refine XS.aloadN X0.here hx rfl (hb hby d22_0) rfl rfl ?_
    exact k
  obtain ⟨T7, X7, e7, st7⟩ := getF X0 hx hZ hown (host := "") (Or.inl (own_w hw 24 rfl)) Via.refl e0 P0 (g := (mkF m 1 #[.val (.ref a1), .val (.int p2)] [(.ref a1)])) rfl rfl (hb hby d22_1)
  refine own_go st7 ?_
  refine own_go (B := T7.setTop (mkF m 9 #[.val (.ref a1), .val (.int p2)] [(.int (((4 : Int32) * p2) + (1 : Int32))), (.ref b1)])) (fun t k => ?_) ?_
  · refine XS.iconst X7.here hx rfl (hb hby d22_4) ?_
    refine XS.iloadN X7.here hx rfl (hb hby d22_5) rfl ?_
    refine XS.imul X7.here hx rfl (hb hby d22_6) rfl ?_
    refine XS.iconst X7.here hx rfl (hb hby d22_7) ?_
    refine XS.iadd X7.here hx rfl (hb hby d22_8) rfl ?_
    exact k
  obtain ⟨cl8, Ar8, q8, S8, M8, Ha8, G8⟩ := id P1
  have hin8 : ¬ ((((4 : Int32) * p2) + (1 : Int32)) < 0 ∨ cl8.slots.size ≤ ((((4 : Int32) * p2) + (1 : Int32))).toNatClampNeg) := inb_of S8 (own_jb (own_ixc _ (1 : Int32) (4 * i0) 1 (own_ix0 p2 i0 qi (by omega)) rfl (by omega) (by omega)) (m := 256) rfl (by omega))
  refine own_go (X7.iaload hx (j := (((4 : Int32) * p2) + (1 : Int32))) (v := (.int (ns.getD (4 * i0 + 1) 0))) (by rw [e7]; exact Ar8.1) (State.isArrayOf_alike hZ.alike Ar8.2.1) Ar8.2.2 hin8 (Has.at Ha8 hin8 (own_getI2 _ (own_jn (own_ixc _ (1 : Int32) (4 * i0) 1 (own_ix0 p2 i0 qi (by omega)) rfl (by omega) (by omega))))) (g := (mkF m 9 #[.val (.ref a1), .val (.int p2)] [(.int (((4 : Int32) * p2) + (1 : Int32))), (.ref b1)])) rfl rfl (hb hby d22_9)) ?_
  obtain ⟨fs, hr, hrun, hended, hW, hsame⟩ := X7.leave (v := some (.int (ns.getD (4 * i0 + 1) 0))) (fun h => by rw [Bd.returns] at h; cases h)
  refine ⟨_, _, ?_, hrun, hended, _, _, rfl, ?_, ⟨_, rfl⟩, hW, hsame.mono (by decide) (by decide)⟩
  · show Steps p.tables e below (T7.setTop (mkF m 10 #[.val (.ref a1), .val (.int p2)] [(.int (ns.getD (4 * i0 + 1) 0))])) _
    exact retOut X7 hx Bd.returns rfl (Or.inl ⟨rfl, Or.inl rfl, _, rfl⟩) (hb hby d22_10) hr
  · show Qrm22 Z a1 p2 b1 k1 ns i0 h0 n0 _ T7.heap _
    rw [e7]
    exact ⟨rfl, N0, rfl⟩
def Qrm23 (Z : State) (a1 : Addr) (p2 : Int32) (b1 : Addr) (k1 : ClassId) (ns : List Int32) (i0 : Nat) (h0 : Heap) (n0 : Nat) (v : Option Value) (h : Heap) (L : List Loc) : Prop := v = some (.int (ns.getD (4 * i0 + 2) 0)) ∧ Fr n0 L ∧ h = h0
theorem efrm23 (m : MethodId) (x0 : Addr) (x1 : Int32) : entryFrame m #[(.ref x0), (.int x1)] 2 = mkF m 0 #[.val (.ref x0), .val (.int x1)] [] := by first | (simp [entryFrame, mkF, argsToLocals, Value.category]; done) | rfl
set_option maxRecDepth 65536 in
set_option maxHeartbeats 40000000 in
theorem rm23 (l : Launch) (Z : State) (a0 : Array Value) (hw : ∀ d ∈ tables_1, d.before a0 Z = true) (ws : List Jvm.Cond) (a1 : Addr) (p2 : Int32) (b1 : Addr) (k1 : ClassId) (ns : List Int32) (i0 : Nat) (h0 : Heap) (n0 : Nat) (Z0 : n0 ≤ h0.size) (P0 : Fld Z h0 a1 OB "nodes" "[I" (.ref b1)) (P1 : Arv Z h0 b1 k1 .int (256 : Int32) (own_I ns) (.int (0 : Int32))) (qi : p2.toInt = (i0 : Int)) (qb : i0 < 64) :
    MetFree l (⟨OB, "high", "(I)I"⟩ : MethodName) (head1 (Jvm.Cond.code (⟨OB, "high", "(I)I"⟩ : MethodName) prog_103_method_23_code 2 (some .int) :: ws) ({ frames := 0, cells := 0, slots := 0, locals := 0 } : Room)) (fun a U => a = #[(.ref a1), (.int p2)] ∧ Z.Warmed39 U.vm ∧ U.heap = h0) (fun _ _ _ _ _ => True) (fun _ U o U' => ∃ v L, o = .returned v ∧ Qrm23 Z a1 p2 b1 k1 ns i0 h0 n0 v U'.heap L ∧ FrameEnd U o U' L ({ frames := 0, cells := 0, slots := 0, locals := 0 } : Room).cells ({ frames := 0, cells := 0, slots := 0, locals := 0 } : Room).slots) := by
  refine MetFree.of_bodySF (plainFor_of_name pn_0) hisR ?_
  intro p e s m args below meth c s₁ Bd hml0 hP hK
  obtain ⟨rfl, hZ, hh⟩ := hP
  have hx := Bd.exec
  have hby := Bd.bytes
  have hml : c.maxLocals = 2 := hml0
  have hown : s.vm.findClass OB = some m.cls := findClass_of_methodNamed Bd.named
  have hnm := (name_of_methodNamed Bd.named Bd.method).1
  have X0 : Stand p l e ({ frames := 0, cells := 0, slots := 0, locals := 0 } : Room) s m #[(.ref a1), (.int p2)] below meth c s₁ [] 0 0 := Stand.of_body Bd
  have e0 : s₁.heap = h0 := by rw [← hh, Bd.state]; rfl
  have N0 := Fr.nil n0
  have K0 : Keep h0 h0 [] := Keep.refl h0 _
  refine own_go (B := s₁.setTop (mkF m 0 #[.val (.ref a1), .val (.int p2)] [])) (fun t k => castTop (efrm23 m a1 p2) k) ?_
  refine own_go (B := s₁.setTop (mkF m 1 #[.val (.ref a1), .val (.int p2)] [(.ref a1)])) (fun t k => ?_) ?_
  · refine XS.aloadN X0.here hx rfl (hb hby d23_0) rfl rfl ?_
    exact k
  obtain ⟨T9, X9, e9, st9⟩ := getF X0 hx hZ hown (host := "") (Or.inl (own_w hw 24 rfl)) Via.refl e0 P0 (g := (mkF m 1 #[.val (.ref a1), .val (.int p2)] [(.ref a1)])) rfl rfl (hb hby d23_1)
  refine own_go st9 ?_
  refine own_go (B := T9.setTop (mkF m 9 #[.val (.ref a1), .val (.int p2)] [(.int (((4 : Int32) * p2) + (2 : Int32))), (.ref b1)])) (fun t k => ?_) ?_
  · refine XS.iconst X9.here hx rfl (hb hby d23_4) ?_
    refine XS.iloadN X9.here hx rfl (hb hby d23_5) rfl ?_
    refine XS.imul X9.here hx rfl (hb hby d23_6) rfl ?_
    refine XS.iconst X9.here hx rfl (hb hby d23_7) ?_
    refine XS.iadd X9.here hx rfl (hb hby d23_8) rfl ?_
    exact k
  obtain ⟨cl10, Ar10, q10, S10, M10, Ha10, G10⟩ := id P1
  have hin10 : ¬ ((((4 : Int32) * p2) + (2 : Int32)) < 0 ∨ cl10.slots.size ≤ ((((4 : Int32) * p2) + (2 : Int32))).toNatClampNeg) := inb_of S10 (own_jb (own_ixc _ (2 : Int32) (4 * i0) 2 (own_ix0 p2 i0 qi (by omega)) rfl (by omega) (by omega)) (m := 256) rfl (by omega))
  refine own_go (X9.iaload hx (j := (((4 : Int32) * p2) + (2 : Int32))) (v := (.int (ns.getD (4 * i0 + 2) 0))) (by rw [e9]; exact Ar10.1) (State.isArrayOf_alike hZ.alike Ar10.2.1) Ar10.2.2 hin10 (Has.at Ha10 hin10 (own_getI2 _ (own_jn (own_ixc _ (2 : Int32) (4 * i0) 2 (own_ix0 p2 i0 qi (by omega)) rfl (by omega) (by omega))))) (g := (mkF m 9 #[.val (.ref a1), .val (.int p2)] [(.int (((4 : Int32) * p2) + (2 : Int32))), (.ref b1)])) rfl rfl (hb hby d23_9)) ?_
  obtain ⟨fs, hr, hrun, hended, hW, hsame⟩ := X9.leave (v := some (.int (ns.getD (4 * i0 + 2) 0))) (fun h => by rw [Bd.returns] at h; cases h)
  refine ⟨_, _, ?_, hrun, hended, _, _, rfl, ?_, ⟨_, rfl⟩, hW, hsame.mono (by decide) (by decide)⟩
  · show Steps p.tables e below (T9.setTop (mkF m 10 #[.val (.ref a1), .val (.int p2)] [(.int (ns.getD (4 * i0 + 2) 0))])) _
    exact retOut X9 hx Bd.returns rfl (Or.inl ⟨rfl, Or.inl rfl, _, rfl⟩) (hb hby d23_10) hr
  · show Qrm23 Z a1 p2 b1 k1 ns i0 h0 n0 _ T9.heap _
    rw [e9]
    exact ⟨rfl, N0, rfl⟩
theorem own_bkt (h : Int32) : ¬ (h &&& (63 : Int32)) < 0 ∧ (h &&& (63 : Int32)) < 64 := by
  have a := c_and h 63 (by decide)
  have e1 : (63 : Int32).toInt = 63 := rfl
  have e2 : (64 : Int32).toInt = 64 := rfl
  have e3 : (0 : Int32).toInt = 0 := rfl
  rw [Int32.lt_iff_toInt_lt, Int32.lt_iff_toInt_lt, e2, e3]; omega
theorem own_bktn (h : Int32) : (h &&& (63 : Int32)).toNatClampNeg < 64 := by
  have a := c_and h 63 (by decide)
  have e1 : (63 : Int32).toInt = 63 := rfl
  simp only [Int32.toNatClampNeg]; omega
theorem own_nn {x : Int32} (h : 0 ≤ x.toInt) : x.toInt = ((x.toInt.toNat : Nat) : Int) := by omega
theorem own_ge {x : Int32} (h : ¬ x < (0 : Int32)) : 0 ≤ x.toInt := by
  have e3 : (0 : Int32).toInt = 0 := rfl
  rw [Int32.lt_iff_toInt_lt, e3] at h; omega
theorem own_ne64 {sz : Int32} {n : Nat} (h : sz.toInt = (n : Int)) (hn : n < 64) : ¬ (sz = (64 : Int32)) := fun e => by
  have e2 : (64 : Int32).toInt = 64 := rfl
  rw [e, e2] at h; omega
def own_NP (ns cs : List Int32) (n : Nat) (v l h : Int32) (ns' bs' : List Int32) (sz' : Int32) (n' : Nat) (r : Int32) : Prop :=
  own_Inv ns' bs' cs n' ∧ sz'.toInt = (n' : Int) ∧ own_agree ns ns' n ∧ n ≤ n' ∧ n' ≤ n + 1 ∧ (0 ≤ r.toInt ∧ r.toInt < n') ∧ v.toInt ≤ own_vr ns' r.toInt.toNat ∧
  ∀ q, own_val ns' q r.toInt.toNat = if q v.toInt then own_val ns q h.toInt.toNat else own_val ns q l.toInt.toNat
theorem own_np_same {ns bs cs : List Int32} {n : Nat} {sz v l h : Int32} (I : own_Inv ns bs cs n) (hs : sz.toInt = (n : Int)) (hv : 0 ≤ v.toInt ∧ v.toInt ≤ 2) (hl : 0 ≤ l.toInt ∧ l.toInt < n) (hvl : v.toInt < own_vr ns l.toInt.toNat) (e : l = h) : own_NP ns cs n v l h ns bs sz n l := by
  refine ⟨I, hs, own_agree_refl _ _, Nat.le_refl _, Nat.le_succ _, hl, by omega, fun q => ?_⟩
  rw [← e]; split <;> rfl
theorem own_np_found {ns bs cs : List Int32} {n : Nat} {sz v l h x : Int32} (I : own_Inv ns bs cs n) (hs : sz.toInt = (n : Int)) (hv : 0 ≤ v.toInt ∧ v.toInt ≤ 2) (h0 : 0 ≤ x.toInt) (h1 : x.toInt < n)
    (e1 : ns.getD (4 * x.toInt.toNat) 0 = v) (e2 : ns.getD (4 * x.toInt.toNat + 1) 0 = l) (e3 : ns.getD (4 * x.toInt.toNat + 2) 0 = h) : own_NP ns cs n v l h ns bs sz n x := by
  have f1 : own_vr ns x.toInt.toNat = v.toInt := by unfold own_vr; rw [e1]
  have f2 : own_lo ns x.toInt.toNat = l.toInt := by unfold own_lo; rw [e2]
  have f3 : own_hi ns x.toInt.toNat = h.toInt := by unfold own_hi; rw [e3]
  have h2 : 2 ≤ x.toInt.toNat := by
    rcases Nat.lt_or_ge x.toInt.toNat 2 with c | c
    · have g0 := I.1.2.2.2.1; have g1 := I.1.2.2.2.2.1
      have : x.toInt.toNat = 0 ∨ x.toInt.toNat = 1 := by omega
      rcases this with q | q <;> rw [q] at f1 <;> omega
    · exact c
  refine ⟨I, hs, own_agree_refl _ _, Nat.le_refl _, Nat.le_succ _, ⟨h0, h1⟩, by omega, fun q => ?_⟩
  rw [own_val_nd I.1 q h2 (by omega), f1, f2, f3]
theorem own_np_new {ns bs cs : List Int32} {n : Nat} {sz v l h : Int32} {j : Nat} (I : own_Inv ns bs cs n) (hs : sz.toInt = (n : Int)) (hn : n < 64) (hv : 0 ≤ v.toInt ∧ v.toInt ≤ 2) (hl : 0 ≤ l.toInt ∧ l.toInt < n) (hh : 0 ≤ h.toInt ∧ h.toInt < n) (hvl : v.toInt < own_vr ns l.toInt.toNat) (hvh : v.toInt < own_vr ns h.toInt.toNat) (hj : j < 64) :
    own_NP ns cs n v l h (own_put ns (4 * n) v l h (bs.getD j 0)) (bs.set j sz) (sz + (1 : Int32)) (n + 1) sz := by
  obtain ⟨W, K, C⟩ := I
  have hb := K.2 j hj
  obtain ⟨w1, w2, w3, w4⟩ := own_append W hn hv.1 hv.2 hl.1 hl.2 hh.1 hh.2 hvl hvh hb.1 hb.2
  have es : sz.toInt.toNat = n := by omega
  have e1 : (1 : Int32).toInt = 1 := rfl
  have a := c_iadd sz 1
  have b := rng32 (sz + 1)
  refine ⟨⟨w1, own_BK_set K W.2.1 hj hs, own_CK_agree W w2 (Nat.le_succ _) C⟩, by omega, w2, by omega, by omega, ⟨by omega, by omega⟩, ?_, fun q => ?_⟩
  · rw [es, w3]; omega
  · rw [es]; exact w4 q
theorem own_bk_in {ns bs cs : List Int32} {n : Nat} (I : own_Inv ns bs cs n) (h : Int32) : ((bs.getD (h &&& (63 : Int32)).toNatClampNeg 0).toInt = -1 ∨ 2 ≤ (bs.getD (h &&& (63 : Int32)).toNatClampNeg 0).toInt) ∧ (bs.getD (h &&& (63 : Int32)).toNatClampNeg 0).toInt < n := I.2.1.2 _ (own_bktn h)
theorem own_nx_in {ns bs cs : List Int32} {n : Nat} (I : own_Inv ns bs cs n) {x : Int32} (h0 : 2 ≤ x.toInt) (h1 : x.toInt < n) : ((ns.getD (4 * x.toInt.toNat + 3) 0).toInt = -1 ∨ 2 ≤ (ns.getD (4 * x.toInt.toNat + 3) 0).toInt) ∧ (ns.getD (4 * x.toInt.toNat + 3) 0).toInt < x.toInt := by
  obtain ⟨-, -, -, -, -, h, g⟩ := I.1.2.2.2.2.2 x.toInt.toNat (by omega) (by omega)
  unfold own_nx at h g
  exact ⟨h, by omega⟩
theorem own_chain_in {ns bs cs : List Int32} {n : Nat} (I : own_Inv ns bs cs n) {x : Int32} (h0 : 2 ≤ x.toInt) (h1 : x.toInt < n) : ((ns.getD (4 * x.toInt.toNat + 3) 0).toInt = -1 ∨ 2 ≤ (ns.getD (4 * x.toInt.toNat + 3) 0).toInt) ∧ (ns.getD (4 * x.toInt.toNat + 3) 0).toInt < n := by
  have := own_nx_in I h0 h1
  exact ⟨this.1, by omega⟩
theorem own_chain_mu {ns bs cs : List Int32} {n N : Nat} (I : own_Inv ns bs cs n) {x : Int32} (h0 : 2 ≤ x.toInt) (h1 : x.toInt < n) (hm : (x.toInt + 1).toNat < N + 1) : ((ns.getD (4 * x.toInt.toNat + 3) 0).toInt + 1).toNat < N := by
  have := own_nx_in I h0 h1
  omega
theorem own_selp {s : State} {args : Array Value} {C : String} {y y0 : MethodName} (hs : (Cond.selects C y0 y0).before args s = true) (h0 : y0.cls = y.cls) (hp : s.PrivateAt y) (hi : (Cond.instanceMethod y).before args s = true) (hy : y.cls ≠ "java/lang/invoke/MethodHandle" ∧ y.cls ≠ "java/lang/invoke/VarHandle") : (Cond.selects y.cls y y).before args s = true := by
  obtain ⟨c2, r2, m2, -, -, q3, -, kP, hkP, hkPi⟩ := Cond.selects_spec hs
  exact selects_self_of_private (h0 ▸ findClass_of_methodNamed q3) hkP hkPi hp hi hy
def Qrm9 (Z : State) (a1 : Addr) (p2 : Int32) (p3 : Int32) (p4 : Int32) (b1 : Addr) (b2 : Addr) (b3 : Addr) (k1 : ClassId) (k2 : ClassId) (k3 : ClassId) (ns : List Int32) (bs : List Int32) (cs : List Int32) (sz : Int32) (cp : Int64) (n : Nat) (h0 : Heap) (n0 : Nat) (v : Option Value) (h : Heap) (L : List Loc) : Prop := ∃ ns' : List Int32, ∃ bs' : List Int32, ∃ sz' : Int32, ∃ n' : Nat, ∃ r' : Int32, v = some (.int r') ∧ Fr n0 L ∧ Keep h0 h [a1, b1, b2] ∧ Exa Z h a1 OB ∧ Fld Z h a1 OB "variableCount" "I" (.int (3 : Int32)) ∧ Fld Z h a1 OB "maxComputations" "J" (.long (9223372036854775807 : Int64)) ∧ Fld Z h a1 OB "nodes" "[I" (.ref b1) ∧ Fld Z h a1 OB "buckets" "[I" (.ref b2) ∧ Fld Z h a1 OB "cacheBits" "I" (.int (10 : Int32)) ∧ Fld Z h a1 OB "cache" "[I" (.ref b3) ∧ Fld Z h a1 OB "size" "I" (.int sz') ∧ Fld Z h a1 OB "computations" "J" (.long cp) ∧ Arv Z h b1 k1 .int (256 : Int32) (own_I ns') (.int (0 : Int32)) ∧ Arv Z h b2 k2 .int (64 : Int32) (own_I bs') (.int (0 : Int32)) ∧ Arv Z h b3 k3 .int (4096 : Int32) (own_I cs) (.int (0 : Int32)) ∧ (own_NP ns cs n p2 p3 p4 ns' bs' sz' n' r')
theorem efrm9 (m : MethodId) (x0 : Addr) (x1 : Int32) (x2 : Int32) (x3 : Int32) : entryFrame m #[(.ref x0), (.int x1), (.int x2), (.int x3)] 7 = mkF m 0 #[.val (.ref x0), .val (.int x1), .val (.int x2), .val (.int x3), .unset, .unset, .unset] [] := by first | (simp [entryFrame, mkF, argsToLocals, Value.category]; done) | rfl
set_option maxRecDepth 65536 in
set_option maxHeartbeats 40000000 in
theorem rm9 (l : Launch) (Z : State) (a0 : Array Value) (hw : ∀ d ∈ tables_1, d.before a0 Z = true) (ws : List Jvm.Cond) (a1 : Addr) (p2 : Int32) (p3 : Int32) (p4 : Int32) (b1 : Addr) (b2 : Addr) (b3 : Addr) (k1 : ClassId) (k2 : ClassId) (k3 : ClassId) (ns : List Int32) (bs : List Int32) (cs : List Int32) (sz : Int32) (cp : Int64) (n : Nat) (h0 : Heap) (n0 : Nat) (Z0 : n0 ≤ h0.size) (P0 : Exa Z h0 a1 OB) (P1 : Fld Z h0 a1 OB "variableCount" "I" (.int (3 : Int32))) (P2 : Fld Z h0 a1 OB "maxComputations" "J" (.long (9223372036854775807 : Int64))) (P3 : Fld Z h0 a1 OB "nodes" "[I" (.ref b1)) (P4 : Fld Z h0 a1 OB "buckets" "[I" (.ref b2)) (P5 : Fld Z h0 a1 OB "cacheBits" "I" (.int (10 : Int32))) (P6 : Fld Z h0 a1 OB "cache" "[I" (.ref b3)) (P7 : Fld Z h0 a1 OB "size" "I" (.int sz)) (P8 : Fld Z h0 a1 OB "computations" "J" (.long cp)) (P9 : Arv Z h0 b1 k1 .int (256 : Int32) (own_I ns) (.int (0 : Int32))) (P10 : Arv Z h0 b2 k2 .int (64 : Int32) (own_I bs) (.int (0 : Int32))) (P11 : Arv Z h0 b3 k3 .int (4096 : Int32) (own_I cs) (.int (0 : Int32))) (g_a1 : n0 ≤ a1) (g_b1 : n0 ≤ b1) (g_b2 : n0 ≤ b2) (ne_a1_b1 : a1 ≠ b1) (ne_a1_b2 : a1 ≠ b2) (ne_a1_b3 : a1 ≠ b3) (ne_b1_b2 : b1 ≠ b2) (ne_b1_b3 : b1 ≠ b3) (ne_b2_b3 : b2 ≠ b3) (qI : own_Inv ns bs cs n) (qs : sz.toInt = (n : Int)) (qn : n < 64) (qv : 0 ≤ p2.toInt ∧ p2.toInt ≤ 2) (ql : 0 ≤ p3.toInt ∧ p3.toInt < n) (qh : 0 ≤ p4.toInt ∧ p4.toInt < n) (qvl : p2.toInt < own_vr ns p3.toInt.toNat) (qvh : p2.toInt < own_vr ns p4.toInt.toNat) :
    MetFree l (⟨OB, "node", "(III)I"⟩ : MethodName) (head1 (Jvm.Cond.code (⟨OB, "node", "(III)I"⟩ : MethodName) prog_103_method_24_code 7 (some .int) :: ws) ({ frames := 1, cells := 0, slots := 0, locals := 16 } : Room)) (fun a U => a = #[(.ref a1), (.int p2), (.int p3), (.int p4)] ∧ Z.Warmed39 U.vm ∧ U.heap = h0) (fun _ _ _ _ _ => True) (fun _ U o U' => ∃ v L, o = .returned v ∧ Qrm9 Z a1 p2 p3 p4 b1 b2 b3 k1 k2 k3 ns bs cs sz cp n h0 n0 v U'.heap L ∧ FrameEnd U o U' L ({ frames := 1, cells := 0, slots := 0, locals := 16 } : Room).cells ({ frames := 1, cells := 0, slots := 0, locals := 16 } : Room).slots) := by
  refine MetFree.of_bodySF (plainFor_of_name pn_0) hisR ?_
  intro p e s m args below meth c s₁ Bd hml0 hP hK
  obtain ⟨rfl, hZ, hh⟩ := hP
  have hx := Bd.exec
  have hby := Bd.bytes
  have hml : c.maxLocals = 7 := hml0
  have hown : s.vm.findClass OB = some m.cls := findClass_of_methodNamed Bd.named
  have hnm := (name_of_methodNamed Bd.named Bd.method).1
  have X0 : Stand p l e ({ frames := 1, cells := 0, slots := 0, locals := 16 } : Room) s m #[(.ref a1), (.int p2), (.int p3), (.int p4)] below meth c s₁ [] 0 0 := Stand.of_body Bd
  have e0 : s₁.heap = h0 := by rw [← hh, Bd.state]; rfl
  have N0 := Fr.nil n0
  have K0 : Keep h0 h0 [a1, b1, b2] := Keep.refl h0 _
  refine own_go (B := s₁.setTop (mkF m 0 #[.val (.ref a1), .val (.int p2), .val (.int p3), .val (.int p4), .unset, .unset, .unset] [])) (fun t k => castTop (efrm9 m a1 p2 p3 p4) k) ?_
  refine own_go (B := s₁.setTop (mkF m 2 #[.val (.ref a1), .val (.int p2), .val (.int p3), .val (.int p4), .unset, .unset, .unset] [(.int p4), (.int p3)])) (fun t k => ?_) ?_
  · refine XS.iloadN X0.here hx rfl (hb hby d9_0) rfl ?_
    refine XS.iloadN X0.here hx rfl (hb hby d9_1) rfl ?_
    exact k
  by_cases hc2_11 : p3 = p4
  · refine own_go (B := s₁.setTop (mkF m 5 #[.val (.ref a1), .val (.int p2), .val (.int p3), .val (.int p4), .unset, .unset, .unset] [])) (fun t k => ?_) ?_
    · refine XS.icmpNo X0.here hx rfl (hb hby d9_2) rfl (teq hc2_11).2 ?_
      exact k
    refine own_go (B := s₁.setTop (mkF m 6 #[.val (.ref a1), .val (.int p2), .val (.int p3), .val (.int p4), .unset, .unset, .unset] [(.int p3)])) (fun t k => ?_) ?_
    · refine XS.iloadN X0.here hx rfl (hb hby d9_5) rfl ?_
      exact k
    obtain ⟨fs, hr, hrun, hended, hW, hsame⟩ := X0.leave (v := some (.int p3)) (fun h => by rw [Bd.returns] at h; cases h)
    refine ⟨_, _, ?_, hrun, hended, _, _, rfl, ?_, ⟨_, rfl⟩, hW, hsame.mono (by decide) (by decide)⟩
    · show Steps p.tables e below (s₁.setTop (mkF m 6 #[.val (.ref a1), .val (.int p2), .val (.int p3), .val (.int p4), .unset, .unset, .unset] [(.int p3)])) _
      exact retOut X0 hx Bd.returns rfl (Or.inl ⟨rfl, Or.inl rfl, _, rfl⟩) (hb hby d9_6) hr
    · show Qrm9 Z a1 p2 p3 p4 b1 b2 b3 k1 k2 k3 ns bs cs sz cp n h0 n0 _ s₁.heap _
      rw [e0]
      exact ⟨ns, bs, sz, n, p3, rfl, N0, K0, P0, P1, P2, P3, P4, P5, P6, P7, P8, P9, P10, P11, own_np_same qI qs qv ql qvl hc2_11⟩
  · refine own_go (B := s₁.setTop (mkF m 7 #[.val (.ref a1), .val (.int p2), .val (.int p3), .val (.int p4), .unset, .unset, .unset] [])) (fun t k => ?_) ?_
    · refine XS.icmpYes X0.here hx rfl (pc0 := 2) (pc' := 7) rfl (hb hby d9_2) rfl (feq hc2_11).2 (by decide) (by decide) ?_
      exact k
    refine own_go (B := s₁.setTop (mkF m 11 #[.val (.ref a1), .val (.int p2), .val (.int p3), .val (.int p4), .unset, .unset, .unset] [(.int (0 : Int32)), (.int p4), (.int p3), (.int p2)])) (fun t k => ?_) ?_
    · refine XS.iloadN X0.here hx rfl (hb hby d9_7) rfl ?_
      refine XS.iloadN X0.here hx rfl (hb hby d9_8) rfl ?_
      refine XS.iloadN X0.here hx rfl (hb hby d9_9) rfl ?_
      refine XS.iconst X0.here hx rfl (hb hby d9_10) ?_
      exact k
    obtain ⟨_, _, ⟨T12, L12, k12, n12⟩, -, X12, ⟨Lc12, hQ12, l12, y12, z12⟩, st12⟩ := Jvm.LawKit.callS X0 hx (y := (⟨OB, "hash", "(IIII)I"⟩ : MethodName)) hown (mvT hZ (own_w hw 60 rfl)) (mvT hZ (own_w hw 61 rfl)) (mvT hZ (own_w hw 5 rfl)) (mvT hZ (own_w hw 62 rfl)) (by decide) (backOf (W := 0) (rm10 l Z a0 hw [] p2 p3 p4 (0 : Int32) h0 n0 Z0 ) hZ (own_w hw 62 rfl) (own_w hw 5 rfl) (by decide) (by decide)) (g := (mkF m 11 #[.val (.ref a1), .val (.int p2), .val (.int p3), .val (.int p4), .unset, .unset, .unset] [(.int (0 : Int32)), (.int p4), (.int p3), (.int p2)])) rfl (by rw [hml]; rfl) (argsL := [(.int p2), (.int p3), (.int p4), (.int (0 : Int32))]) (rest := []) (lenOf pd_0 rfl) rfl (by show 2 * 0 + _ ≤ _; exact Nat.le_of_eq rfl) (hb hby d9_11) (fun _ _ => ⟨rfl, e0, (by decide : 0 + 0 ≤ _), (by decide : 0 + 0 ≤ _)⟩)
    dsimp only [Pt.U, Pt.locs, Pt.cells, Pt.slots] at X12 l12 y12 z12 st12 hQ12
    subst l12 y12 z12
    obtain ⟨rfl, Nq12, e12⟩ := hQ12
    have N12 := Fr.app N0 Nq12
    refine own_go (B := T12.setTop (mkF m 14 #[.val (.ref a1), .val (.int p2), .val (.int p3), .val (.int p4), .unset, .unset, .unset] [(.int (own_hash p2 p3 p4 (0 : Int32)))])) st12 ?_
    refine own_go (B := T12.setTop (mkF m 15 #[.val (.ref a1), .val (.int p2), .val (.int p3), .val (.int p4), .unset, .unset, .unset] [(.ref a1), (.int (own_hash p2 p3 p4 (0 : Int32)))])) (fun t k => ?_) ?_
    · refine XS.aloadN X12.here hx rfl (hb hby d9_14) rfl rfl ?_
      exact k
    obtain ⟨T13, X13, e13, st13⟩ := getF X12 hx hZ hown (host := "") (Or.inl (own_w hw 35 rfl)) Via.refl e12 P4 (g := (mkF m 15 #[.val (.ref a1), .val (.int p2), .val (.int p3), .val (.int p4), .unset, .unset, .unset] [(.ref a1), (.int (own_hash p2 p3 p4 (0 : Int32)))])) rfl rfl (hb hby d9_15)
    refine own_go st13 ?_
    obtain ⟨cl14, Ar14, q14, S14, M14, Ha14, G14⟩ := id P10
    refine own_go (B := T13.setTop (mkF m 19 #[.val (.ref a1), .val (.int p2), .val (.int p3), .val (.int p4), .unset, .unset, .unset] [(.int (64 : Int32)), (.int (own_hash p2 p3 p4 (0 : Int32)))])) (fun t k => ?_) ?_
    · refine X13.arraylength hx (by rw [e13]; exact Ar14.1) (State.isArrayOf_alike hZ.alike Ar14.2.1) (g := (mkF m 18 #[.val (.ref a1), .val (.int p2), .val (.int p3), .val (.int p4), .unset, .unset, .unset] [(.ref b2), (.int (own_hash p2 p3 p4 (0 : Int32)))])) rfl rfl (hb hby d9_18) _ ?_
      rw [len_of S14 M14]
      exact k
    refine own_go (B := T13.setTop (mkF m 25 #[.val (.ref a1), .val (.int p2), .val (.int p3), .val (.int p4), .val (.int ((own_hash p2 p3 p4 (0 : Int32)) &&& (63 : Int32))), .unset, .unset] [(.ref a1)])) (fun t k => ?_) ?_
    · refine XS.iconst X13.here hx rfl (hb hby d9_19) ?_
      refine XS.isub X13.here hx rfl (hb hby d9_20) rfl ?_
      refine XS.iand X13.here hx rfl (hb hby d9_21) rfl ?_
      refine XS.istore X13.here hx rfl (hb hby d9_22) rfl (l' := #[.val (.ref a1), .val (.int p2), .val (.int p3), .val (.int p4), .val (.int ((own_hash p2 p3 p4 (0 : Int32)) &&& (63 : Int32))), .unset, .unset]) rfl ?_
      refine XS.aloadN X13.here hx rfl (hb hby d9_24) rfl rfl ?_
      exact k
    obtain ⟨T15, X15, e15, st15⟩ := getF X13 hx hZ hown (host := "") (Or.inl (own_w hw 35 rfl)) Via.refl e13 P4 (g := (mkF m 25 #[.val (.ref a1), .val (.int p2), .val (.int p3), .val (.int p4), .val (.int ((own_hash p2 p3 p4 (0 : Int32)) &&& (63 : Int32))), .unset, .unset] [(.ref a1)])) rfl rfl (hb hby d9_25)
    refine own_go st15 ?_
    refine own_go (B := T15.setTop (mkF m 30 #[.val (.ref a1), .val (.int p2), .val (.int p3), .val (.int p4), .val (.int ((own_hash p2 p3 p4 (0 : Int32)) &&& (63 : Int32))), .unset, .unset] [(.int ((own_hash p2 p3 p4 (0 : Int32)) &&& (63 : Int32))), (.ref b2)])) (fun t k => ?_) ?_
    · refine XS.iload X15.here hx rfl (hb hby d9_28) rfl ?_
      exact k
    obtain ⟨cl16, Ar16, q16, S16, M16, Ha16, G16⟩ := id P10
    have hin16 : ¬ (((own_hash p2 p3 p4 (0 : Int32)) &&& (63 : Int32)) < 0 ∨ cl16.slots.size ≤ (((own_hash p2 p3 p4 (0 : Int32)) &&& (63 : Int32))).toNatClampNeg) := inb_of S16 (own_bkt _)
    refine own_go (X15.iaload hx (j := ((own_hash p2 p3 p4 (0 : Int32)) &&& (63 : Int32))) (v := (.int (bs.getD (((own_hash p2 p3 p4 (0 : Int32)) &&& (63 : Int32)).toNatClampNeg) 0))) (by rw [e15]; exact Ar16.1) (State.isArrayOf_alike hZ.alike Ar16.2.1) Ar16.2.2 hin16 (Has.at Ha16 hin16 (own_getI2 _ rfl)) (g := (mkF m 30 #[.val (.ref a1), .val (.int p2), .val (.int p3), .val (.int p4), .val (.int ((own_hash p2 p3 p4 (0 : Int32)) &&& (63 : Int32))), .unset, .unset] [(.int ((own_hash p2 p3 p4 (0 : Int32)) &&& (63 : Int32))), (.ref b2)])) rfl rfl (hb hby d9_30)) ?_
    refine own_go (B := T15.setTop (mkF m 33 #[.val (.ref a1), .val (.int p2), .val (.int p3), .val (.int p4), .val (.int ((own_hash p2 p3 p4 (0 : Int32)) &&& (63 : Int32))), .val (.int (bs.getD (((own_hash p2 p3 p4 (0 : Int32)) &&& (63 : Int32)).toNatClampNeg) 0)), .unset] [])) (fun t k => ?_) ?_
    · refine XS.istore X15.here hx rfl (hb hby d9_31) rfl (l' := #[.val (.ref a1), .val (.int p2), .val (.int p3), .val (.int p4), .val (.int ((own_hash p2 p3 p4 (0 : Int32)) &&& (63 : Int32))), .val (.int (bs.getD (((own_hash p2 p3 p4 (0 : Int32)) &&& (63 : Int32)).toNatClampNeg) 0)), .unset]) rfl ?_
      exact k
    have loop17 : ∀ (N : Nat) (x5 : Int32) (Tq17 : State) (Lq17 : List Loc), (x5.toInt + 1).toNat < N → ((x5.toInt = -1 ∨ 2 ≤ x5.toInt) ∧ x5.toInt < n) → Stand p l e ({ frames := 1, cells := 0, slots := 0, locals := 16 } : Room) s m #[(.ref a1), (.int p2), (.int p3), (.int p4)] below meth c Tq17 Lq17 0 0 → Tq17.heap = h0 → Fr n0 Lq17 → ∃ s₂ o, Steps p.tables e below (Tq17.setTop (mkF m 33 #[.val (.ref a1), .val (.int p2), .val (.int p3), .val (.int p4), .val (.int ((own_hash p2 p3 p4 (0 : Int32)) &&& (63 : Int32))), .val (.int x5), .unset] [])) s₂ ∧ s₂.status = .running ∧ Ended s₂ below o ∧ ∃ v L, o = .returned v ∧ Qrm9 Z a1 p2 p3 p4 b1 b2 b3 k1 k2 k3 ns bs cs sz cp n h0 n0 v s₂.heap L ∧ FrameEnd s o s₂ L ({ frames := 1, cells := 0, slots := 0, locals := 16 } : Room).cells ({ frames := 1, cells := 0, slots := 0, locals := 16 } : Room).slots := by
      intro N
      induction N with
      | zero => intro x5 Tq17 Lq17 hmu; exact absurd hmu (Nat.not_lt_zero _)
      | succ N ih =>
        intro x5 Tq17 Lq17 hmu qx Xq17 eq17 Nq17 
        refine own_go (B := Tq17.setTop (mkF m 35 #[.val (.ref a1), .val (.int p2), .val (.int p3), .val (.int p4), .val (.int ((own_hash p2 p3 p4 (0 : Int32)) &&& (63 : Int32))), .val (.int x5), .unset] [(.int x5)])) (fun t k => ?_) ?_
        · refine XS.iload Xq17.here hx rfl (hb hby d9_33) rfl ?_
          exact k
        by_cases hc35_18 : x5 < (0 : Int32)
        · refine own_go (B := Tq17.setTop (mkF m 87 #[.val (.ref a1), .val (.int p2), .val (.int p3), .val (.int p4), .val (.int ((own_hash p2 p3 p4 (0 : Int32)) &&& (63 : Int32))), .val (.int x5), .unset] [])) (fun t k => ?_) ?_
          · refine XS.ifYes Xq17.here hx rfl (pc0 := 35) (pc' := 87) rfl (hb hby d9_35) rfl ((if0 _ _).trans (tlt hc35_18).1) (by decide) (by decide) ?_
            exact k
          refine own_go (B := Tq17.setTop (mkF m 88 #[.val (.ref a1), .val (.int p2), .val (.int p3), .val (.int p4), .val (.int ((own_hash p2 p3 p4 (0 : Int32)) &&& (63 : Int32))), .val (.int x5), .unset] [(.ref a1)])) (fun t k => ?_) ?_
          · refine XS.aloadN Xq17.here hx rfl (hb hby d9_87) rfl rfl ?_
            exact k
          obtain ⟨T19, X19, e19, st19⟩ := getF Xq17 hx hZ hown (host := "") (Or.inl (own_w hw 45 rfl)) Via.refl eq17 P7 (g := (mkF m 88 #[.val (.ref a1), .val (.int p2), .val (.int p3), .val (.int p4), .val (.int ((own_hash p2 p3 p4 (0 : Int32)) &&& (63 : Int32))), .val (.int x5), .unset] [(.ref a1)])) rfl rfl (hb hby d9_88)
          refine own_go st19 ?_
          refine own_go (B := T19.setTop (mkF m 92 #[.val (.ref a1), .val (.int p2), .val (.int p3), .val (.int p4), .val (.int ((own_hash p2 p3 p4 (0 : Int32)) &&& (63 : Int32))), .val (.int x5), .unset] [(.ref a1), (.int sz)])) (fun t k => ?_) ?_
          · refine XS.aloadN X19.here hx rfl (hb hby d9_91) rfl rfl ?_
            exact k
          obtain ⟨cq20, q20, q20'⟩ := P0.cell
          obtain ⟨_, _, ⟨T20, L20, k20, n20⟩, -, X20, ⟨Lc20, hQ20, l20, y20, z20⟩, st20⟩ := X19.privateBack hx (y := (⟨OB, "capacity", "()I"⟩ : MethodName)) hown (mvT hZ (own_w hw 66 rfl)) (mvT hZ (own_w hw 67 rfl)) (own_selp (mvT hZ (own_w hw 50 rfl)) rfl (Cond.privateMethod_at (mvP hZ (own_w hw 68 rfl) (args := #[]))) (mvT hZ (own_w hw 67 rfl)) (by decide)) (Cond.privateMethod_at (mvP hZ (own_w hw 68 rfl) (args := #[]))) (mvT hZ (own_w hw 69 rfl)) (by decide) (backOf (W := 1) (rm11 l Z a0 hw [] a1 b1 k1 ns h0 n0 Z0 P3 P9) hZ (own_w hw 69 rfl) (own_w hw 5 rfl) (by decide) (by decide)) (g := (mkF m 92 #[.val (.ref a1), .val (.int p2), .val (.int p3), .val (.int p4), .val (.int ((own_hash p2 p3 p4 (0 : Int32)) &&& (63 : Int32))), .val (.int x5), .unset] [(.ref a1), (.int sz)])) rfl (by rw [hml]; rfl) (Steps.refl _) (a := a1) (by rw [e19]; exact q20) q20' (argsL := []) (rest := [(.int sz)]) (lenOf pd_1 rfl) rfl (by show 2 * 0 + _ ≤ _; exact Nat.le_of_eq rfl) (hb hby d9_92) (fun _ _ => ⟨rfl, e19, (by decide : 0 + 0 ≤ _), (by decide : 0 + 0 ≤ _)⟩)
          dsimp only [Pt.U, Pt.locs, Pt.cells, Pt.slots] at X20 l20 y20 z20 st20 hQ20
          subst l20 y20 z20
          obtain ⟨rfl, Nq20, e20⟩ := hQ20
          have N20 := Fr.app Nq17 Nq20
          refine own_go (B := T20.setTop (mkF m 95 #[.val (.ref a1), .val (.int p2), .val (.int p3), .val (.int p4), .val (.int ((own_hash p2 p3 p4 (0 : Int32)) &&& (63 : Int32))), .val (.int x5), .unset] [(.int (64 : Int32)), (.int sz)])) (fun t k => st20.trans k) ?_
          have hc95_21 : ¬ (sz = (64 : Int32)) := own_ne64 qs qn
          refine own_go (B := T20.setTop (mkF m 111 #[.val (.ref a1), .val (.int p2), .val (.int p3), .val (.int p4), .val (.int ((own_hash p2 p3 p4 (0 : Int32)) &&& (63 : Int32))), .val (.int x5), .unset] [(.ref a1)])) (fun t k => ?_) ?_
          · refine XS.icmpYes X20.here hx rfl (pc0 := 95) (pc' := 110) rfl (hb hby d9_95) rfl (feq hc95_21).2 (by decide) (by decide) ?_
            refine XS.aloadN X20.here hx rfl (hb hby d9_110) rfl rfl ?_
            exact k
          obtain ⟨T22, X22, e22, st22⟩ := getF X20 hx hZ hown (host := "") (Or.inl (own_w hw 45 rfl)) Via.refl e20 P7 (g := (mkF m 111 #[.val (.ref a1), .val (.int p2), .val (.int p3), .val (.int p4), .val (.int ((own_hash p2 p3 p4 (0 : Int32)) &&& (63 : Int32))), .val (.int x5), .unset] [(.ref a1)])) rfl rfl (hb hby d9_111)
          refine own_go st22 ?_
          refine own_go (B := T22.setTop (mkF m 118 #[.val (.ref a1), .val (.int p2), .val (.int p3), .val (.int p4), .val (.int ((own_hash p2 p3 p4 (0 : Int32)) &&& (63 : Int32))), .val (.int sz), .unset] [(.ref a1), (.ref a1)])) (fun t k => ?_) ?_
          · refine XS.istore X22.here hx rfl (hb hby d9_114) rfl (l' := #[.val (.ref a1), .val (.int p2), .val (.int p3), .val (.int p4), .val (.int ((own_hash p2 p3 p4 (0 : Int32)) &&& (63 : Int32))), .val (.int sz), .unset]) rfl ?_
            refine XS.aloadN X22.here hx rfl (hb hby d9_116) rfl rfl ?_
            refine XS.dup X22.here hx rfl (hb hby d9_117) rfl rfl ?_
            exact k
          obtain ⟨T23, X23, e23, st23⟩ := getF X22 hx hZ hown (host := "") (Or.inl (own_w hw 45 rfl)) Via.refl e22 P7 (g := (mkF m 118 #[.val (.ref a1), .val (.int p2), .val (.int p3), .val (.int p4), .val (.int ((own_hash p2 p3 p4 (0 : Int32)) &&& (63 : Int32))), .val (.int sz), .unset] [(.ref a1), (.ref a1)])) rfl rfl (hb hby d9_118)
          refine own_go st23 ?_
          refine own_go (B := T23.setTop (mkF m 123 #[.val (.ref a1), .val (.int p2), .val (.int p3), .val (.int p4), .val (.int ((own_hash p2 p3 p4 (0 : Int32)) &&& (63 : Int32))), .val (.int sz), .unset] [(.int (sz + (1 : Int32))), (.ref a1)])) (fun t k => ?_) ?_
          · refine XS.iconst X23.here hx rfl (hb hby d9_121) ?_
            refine XS.iadd X23.here hx rfl (hb hby d9_122) rfl ?_
            exact k
          obtain ⟨T24, h24, X24, e24, W24, st24⟩ := putF X23 hx hZ hown (host := "") (Or.inl (own_w hw 45 rfl)) Via.refl e23 P7 P0 (Or.inl (own_w hw 46 rfl)) (own_w hw 4 rfl) (ty := .int) (by decide) rfl rfl (g := (mkF m 123 #[.val (.ref a1), .val (.int p2), .val (.int p3), .val (.int p4), .val (.int ((own_hash p2 p3 p4 (0 : Int32)) &&& (63 : Int32))), .val (.int sz), .unset] [(.int (sz + (1 : Int32))), (.ref a1)])) rfl rfl (hb hby d9_123)
          have Q25 : Exa Z h24 a1 OB := P0.wr W24
          have Q26 : Fld Z h24 a1 OB "variableCount" "I" (.int (3 : Int32)) := P1.other W24 (Or.inr (slot_ne (Or.inr (own_w hw 14 rfl)) (Or.inl (own_w hw 46 rfl)) (by decide) (t := .int) (t' := .int) (by decide) (by decide)))
          have Q27 : Fld Z h24 a1 OB "maxComputations" "J" (.long (9223372036854775807 : Int64)) := P2.other W24 (Or.inr (slot_ne (Or.inr (own_w hw 23 rfl)) (Or.inl (own_w hw 46 rfl)) (by decide) (t := .long) (t' := .int) (by decide) (by decide)))
          have Q28 : Fld Z h24 a1 OB "nodes" "[I" (.ref b1) := P3.other W24 (Or.inr (slot_ne (Or.inl (own_w hw 25 rfl)) (Or.inl (own_w hw 46 rfl)) (by decide) (t := (.array .int)) (t' := .int) (by decide) (by decide)))
          have Q29 : Fld Z h24 a1 OB "buckets" "[I" (.ref b2) := P4.other W24 (Or.inr (slot_ne (Or.inl (own_w hw 36 rfl)) (Or.inl (own_w hw 46 rfl)) (by decide) (t := (.array .int)) (t' := .int) (by decide) (by decide)))
          have Q30 : Fld Z h24 a1 OB "cacheBits" "I" (.int (10 : Int32)) := P5.other W24 (Or.inr (slot_ne (Or.inl (own_w hw 42 rfl)) (Or.inl (own_w hw 46 rfl)) (by decide) (t := .int) (t' := .int) (by decide) (by decide)))
          have Q31 : Fld Z h24 a1 OB "cache" "[I" (.ref b3) := P6.other W24 (Or.inr (slot_ne (Or.inl (own_w hw 44 rfl)) (Or.inl (own_w hw 46 rfl)) (by decide) (t := (.array .int)) (t' := .int) (by decide) (by decide)))
          have Q32 : Fld Z h24 a1 OB "computations" "J" (.long cp) := P8.other W24 (Or.inr (slot_ne (Or.inl (own_w hw 123 rfl)) (Or.inl (own_w hw 46 rfl)) (by decide) (t := .long) (t' := .int) (by decide) (by decide)))
          have Q33 : Arv Z h24 b1 k1 .int (256 : Int32) (own_I ns) (.int (0 : Int32)) := P9.other W24 (Ne.symm ne_a1_b1)
          have Q34 : Arv Z h24 b2 k2 .int (64 : Int32) (own_I bs) (.int (0 : Int32)) := P10.other W24 (Ne.symm ne_a1_b2)
          have Q35 : Arv Z h24 b3 k3 .int (4096 : Int32) (own_I cs) (.int (0 : Int32)) := P11.other W24 (Ne.symm ne_a1_b3)
          have U24 : Fld Z h24 a1 OB "size" "I" (.int (sz + (1 : Int32))) := P7.same W24
          have Z24 : n0 ≤ h24.size := Nat.le_trans Z0 (Keep.of_wr W24).1
          have N24 := Fr.snoc X24 N20 g_a1
          have K24 := K0.wr W24 (Or.inl (List.mem_of_getElem? (i := 0) rfl))
          refine own_go st24 ?_
          refine own_go (B := T24.setTop (mkF m 133 #[.val (.ref a1), .val (.int p2), .val (.int p3), .val (.int p4), .val (.int ((own_hash p2 p3 p4 (0 : Int32)) &&& (63 : Int32))), .val (.int sz), .val (.int ((4 : Int32) * sz))] [(.ref a1)])) (fun t k => ?_) ?_
          · refine XS.iconst X24.here hx rfl (hb hby d9_126) ?_
            refine XS.iload X24.here hx rfl (hb hby d9_127) rfl ?_
            refine XS.imul X24.here hx rfl (hb hby d9_129) rfl ?_
            refine XS.istore X24.here hx rfl (hb hby d9_130) rfl (l' := #[.val (.ref a1), .val (.int p2), .val (.int p3), .val (.int p4), .val (.int ((own_hash p2 p3 p4 (0 : Int32)) &&& (63 : Int32))), .val (.int sz), .val (.int ((4 : Int32) * sz))]) rfl ?_
            refine XS.aloadN X24.here hx rfl (hb hby d9_132) rfl rfl ?_
            exact k
          obtain ⟨T36, X36, e36, st36⟩ := getF X24 hx hZ hown (host := "") (Or.inl (own_w hw 24 rfl)) Via.refl e24 Q28 (g := (mkF m 133 #[.val (.ref a1), .val (.int p2), .val (.int p3), .val (.int p4), .val (.int ((own_hash p2 p3 p4 (0 : Int32)) &&& (63 : Int32))), .val (.int sz), .val (.int ((4 : Int32) * sz))] [(.ref a1)])) rfl rfl (hb hby d9_133)
          refine own_go st36 ?_
          refine own_go (B := T36.setTop (mkF m 139 #[.val (.ref a1), .val (.int p2), .val (.int p3), .val (.int p4), .val (.int ((own_hash p2 p3 p4 (0 : Int32)) &&& (63 : Int32))), .val (.int sz), .val (.int ((4 : Int32) * sz))] [(.int p2), (.int ((4 : Int32) * sz)), (.ref b1)])) (fun t k => ?_) ?_
          · refine XS.iload X36.here hx rfl (hb hby d9_136) rfl ?_
            refine XS.iloadN X36.here hx rfl (hb hby d9_138) rfl ?_
            exact k
          obtain ⟨cl37, Ar37, q37, S37, M37, Ha37, G37⟩ := Q33
          have hin37 : ¬ (((4 : Int32) * sz) < 0 ∨ cl37.slots.size ≤ (((4 : Int32) * sz)).toNatClampNeg) := inb_of S37 (own_jb (own_ix0 sz n qs (by omega)) (m := 256) rfl (by omega))
          obtain ⟨T37, h37, X37, e37, W37, st37⟩ := stI X36 hx hZ e36 Ar37 (j := ((4 : Int32) * sz)) hin37 (g := (mkF m 139 #[.val (.ref a1), .val (.int p2), .val (.int p3), .val (.int p4), .val (.int ((own_hash p2 p3 p4 (0 : Int32)) &&& (63 : Int32))), .val (.int sz), .val (.int ((4 : Int32) * sz))] [(.int p2), (.int ((4 : Int32) * sz)), (.ref b1)])) rfl rfl (hb hby d9_139)
          have Q38 : Exa Z h37 a1 OB := Q25.wr W37
          have Q39 : Fld Z h37 a1 OB "variableCount" "I" (.int (3 : Int32)) := Q26.other W37 (Or.inl ne_a1_b1)
          have Q40 : Fld Z h37 a1 OB "maxComputations" "J" (.long (9223372036854775807 : Int64)) := Q27.other W37 (Or.inl ne_a1_b1)
          have Q41 : Fld Z h37 a1 OB "nodes" "[I" (.ref b1) := Q28.other W37 (Or.inl ne_a1_b1)
          have Q42 : Fld Z h37 a1 OB "buckets" "[I" (.ref b2) := Q29.other W37 (Or.inl ne_a1_b1)
          have Q43 : Fld Z h37 a1 OB "cacheBits" "I" (.int (10 : Int32)) := Q30.other W37 (Or.inl ne_a1_b1)
          have Q44 : Fld Z h37 a1 OB "cache" "[I" (.ref b3) := Q31.other W37 (Or.inl ne_a1_b1)
          have Q45 : Fld Z h37 a1 OB "computations" "J" (.long cp) := Q32.other W37 (Or.inl ne_a1_b1)
          have Q46 : Arv Z h37 b2 k2 .int (64 : Int32) (own_I bs) (.int (0 : Int32)) := Q34.other W37 (Ne.symm ne_b1_b2)
          have Q47 : Arv Z h37 b3 k3 .int (4096 : Int32) (own_I cs) (.int (0 : Int32)) := Q35.other W37 (Ne.symm ne_b1_b3)
          have Q48 : Fld Z h37 a1 OB "size" "I" (.int (sz + (1 : Int32))) := U24.other W37 (Or.inl ne_a1_b1)
          have U37 : Arv Z h37 b1 k1 .int (256 : Int32) (own_I (ns.set (4 * n) p2)) (.int (0 : Int32)) := own_arvI (Arv.set Ar37 q37 S37 M37 Ha37 G37 rfl W37 (4 * n) (own_jn (own_ix0 sz n qs (by omega))) (by simp only [own_lenI, List.length_set, qI.1.1]; omega))
          have Z37 : n0 ≤ h37.size := Nat.le_trans Z24 (Keep.of_wr W37).1
          have N37 := Fr.snoc X37 N24 g_b1
          have K37 := K24.wr W37 (Or.inl (List.mem_of_getElem? (i := 1) rfl))
          refine own_go st37 ?_
          refine own_go (B := T37.setTop (mkF m 141 #[.val (.ref a1), .val (.int p2), .val (.int p3), .val (.int p4), .val (.int ((own_hash p2 p3 p4 (0 : Int32)) &&& (63 : Int32))), .val (.int sz), .val (.int ((4 : Int32) * sz))] [(.ref a1)])) (fun t k => ?_) ?_
          · refine XS.aloadN X37.here hx rfl (hb hby d9_140) rfl rfl ?_
            exact k
          obtain ⟨T49, X49, e49, st49⟩ := getF X37 hx hZ hown (host := "") (Or.inl (own_w hw 24 rfl)) Via.refl e37 Q41 (g := (mkF m 141 #[.val (.ref a1), .val (.int p2), .val (.int p3), .val (.int p4), .val (.int ((own_hash p2 p3 p4 (0 : Int32)) &&& (63 : Int32))), .val (.int sz), .val (.int ((4 : Int32) * sz))] [(.ref a1)])) rfl rfl (hb hby d9_141)
          refine own_go st49 ?_
          refine own_go (B := T49.setTop (mkF m 149 #[.val (.ref a1), .val (.int p2), .val (.int p3), .val (.int p4), .val (.int ((own_hash p2 p3 p4 (0 : Int32)) &&& (63 : Int32))), .val (.int sz), .val (.int ((4 : Int32) * sz))] [(.int p3), (.int (((4 : Int32) * sz) + (1 : Int32))), (.ref b1)])) (fun t k => ?_) ?_
          · refine XS.iload X49.here hx rfl (hb hby d9_144) rfl ?_
            refine XS.iconst X49.here hx rfl (hb hby d9_146) ?_
            refine XS.iadd X49.here hx rfl (hb hby d9_147) rfl ?_
            refine XS.iloadN X49.here hx rfl (hb hby d9_148) rfl ?_
            exact k
          obtain ⟨cl50, Ar50, q50, S50, M50, Ha50, G50⟩ := U37
          have hin50 : ¬ ((((4 : Int32) * sz) + (1 : Int32)) < 0 ∨ cl50.slots.size ≤ ((((4 : Int32) * sz) + (1 : Int32))).toNatClampNeg) := inb_of S50 (own_jb (own_ixc _ (1 : Int32) (4 * n) 1 (own_ix0 sz n qs (by omega)) rfl (by omega) (by omega)) (m := 256) rfl (by omega))
          obtain ⟨T50, h50, X50, e50, W50, st50⟩ := stI X49 hx hZ e49 Ar50 (j := (((4 : Int32) * sz) + (1 : Int32))) hin50 (g := (mkF m 149 #[.val (.ref a1), .val (.int p2), .val (.int p3), .val (.int p4), .val (.int ((own_hash p2 p3 p4 (0 : Int32)) &&& (63 : Int32))), .val (.int sz), .val (.int ((4 : Int32) * sz))] [(.int p3), (.int (((4 : Int32) * sz) + (1 : Int32))), (.ref b1)])) rfl rfl (hb hby d9_149)
          have Q51 : Exa Z h50 a1 OB := Q38.wr W50
          have Q52 : Fld Z h50 a1 OB "variableCount" "I" (.int (3 : Int32)) := Q39.other W50 (Or.inl ne_a1_b1)
          have Q53 : Fld Z h50 a1 OB "maxComputations" "J" (.long (9223372036854775807 : Int64)) := Q40.other W50 (Or.inl ne_a1_b1)
          have Q54 : Fld Z h50 a1 OB "nodes" "[I" (.ref b1) := Q41.other W50 (Or.inl ne_a1_b1)
          have Q55 : Fld Z h50 a1 OB "buckets" "[I" (.ref b2) := Q42.other W50 (Or.inl ne_a1_b1)
          have Q56 : Fld Z h50 a1 OB "cacheBits" "I" (.int (10 : Int32)) := Q43.other W50 (Or.inl ne_a1_b1)
          have Q57 : Fld Z h50 a1 OB "cache" "[I" (.ref b3) := Q44.other W50 (Or.inl ne_a1_b1)
          have Q58 : Fld Z h50 a1 OB "computations" "J" (.long cp) := Q45.other W50 (Or.inl ne_a1_b1)
          have Q59 : Arv Z h50 b2 k2 .int (64 : Int32) (own_I bs) (.int (0 : Int32)) := Q46.other W50 (Ne.symm ne_b1_b2)
          have Q60 : Arv Z h50 b3 k3 .int (4096 : Int32) (own_I cs) (.int (0 : Int32)) := Q47.other W50 (Ne.symm ne_b1_b3)
          have Q61 : Fld Z h50 a1 OB "size" "I" (.int (sz + (1 : Int32))) := Q48.other W50 (Or.inl ne_a1_b1)
          have U50 : Arv Z h50 b1 k1 .int (256 : Int32) (own_I ((ns.set (4 * n) p2).set (4 * n + 1) p3)) (.int (0 : Int32)) := own_arvI (Arv.set Ar50 q50 S50 M50 Ha50 G50 rfl W50 (4 * n + 1) (own_jn (own_ixc _ (1 : Int32) (4 * n) 1 (own_ix0 sz n qs (by omega)) rfl (by omega) (by omega))) (by simp only [own_lenI, List.length_set, qI.1.1]; omega))
          have Z50 : n0 ≤ h50.size := Nat.le_trans Z37 (Keep.of_wr W50).1
          have N50 := Fr.snoc X50 N37 g_b1
          have K50 := K37.wr W50 (Or.inl (List.mem_of_getElem? (i := 1) rfl))
          refine own_go st50 ?_
          refine own_go (B := T50.setTop (mkF m 151 #[.val (.ref a1), .val (.int p2), .val (.int p3), .val (.int p4), .val (.int ((own_hash p2 p3 p4 (0 : Int32)) &&& (63 : Int32))), .val (.int sz), .val (.int ((4 : Int32) * sz))] [(.ref a1)])) (fun t k => ?_) ?_
          · refine XS.aloadN X50.here hx rfl (hb hby d9_150) rfl rfl ?_
            exact k
          obtain ⟨T62, X62, e62, st62⟩ := getF X50 hx hZ hown (host := "") (Or.inl (own_w hw 24 rfl)) Via.refl e50 Q54 (g := (mkF m 151 #[.val (.ref a1), .val (.int p2), .val (.int p3), .val (.int p4), .val (.int ((own_hash p2 p3 p4 (0 : Int32)) &&& (63 : Int32))), .val (.int sz), .val (.int ((4 : Int32) * sz))] [(.ref a1)])) rfl rfl (hb hby d9_151)
          refine own_go st62 ?_
          refine own_go (B := T62.setTop (mkF m 159 #[.val (.ref a1), .val (.int p2), .val (.int p3), .val (.int p4), .val (.int ((own_hash p2 p3 p4 (0 : Int32)) &&& (63 : Int32))), .val (.int sz), .val (.int ((4 : Int32) * sz))] [(.int p4), (.int (((4 : Int32) * sz) + (2 : Int32))), (.ref b1)])) (fun t k => ?_) ?_
          · refine XS.iload X62.here hx rfl (hb hby d9_154) rfl ?_
            refine XS.iconst X62.here hx rfl (hb hby d9_156) ?_
            refine XS.iadd X62.here hx rfl (hb hby d9_157) rfl ?_
            refine XS.iloadN X62.here hx rfl (hb hby d9_158) rfl ?_
            exact k
          obtain ⟨cl63, Ar63, q63, S63, M63, Ha63, G63⟩ := U50
          have hin63 : ¬ ((((4 : Int32) * sz) + (2 : Int32)) < 0 ∨ cl63.slots.size ≤ ((((4 : Int32) * sz) + (2 : Int32))).toNatClampNeg) := inb_of S63 (own_jb (own_ixc _ (2 : Int32) (4 * n) 2 (own_ix0 sz n qs (by omega)) rfl (by omega) (by omega)) (m := 256) rfl (by omega))
          obtain ⟨T63, h63, X63, e63, W63, st63⟩ := stI X62 hx hZ e62 Ar63 (j := (((4 : Int32) * sz) + (2 : Int32))) hin63 (g := (mkF m 159 #[.val (.ref a1), .val (.int p2), .val (.int p3), .val (.int p4), .val (.int ((own_hash p2 p3 p4 (0 : Int32)) &&& (63 : Int32))), .val (.int sz), .val (.int ((4 : Int32) * sz))] [(.int p4), (.int (((4 : Int32) * sz) + (2 : Int32))), (.ref b1)])) rfl rfl (hb hby d9_159)
          have Q64 : Exa Z h63 a1 OB := Q51.wr W63
          have Q65 : Fld Z h63 a1 OB "variableCount" "I" (.int (3 : Int32)) := Q52.other W63 (Or.inl ne_a1_b1)
          have Q66 : Fld Z h63 a1 OB "maxComputations" "J" (.long (9223372036854775807 : Int64)) := Q53.other W63 (Or.inl ne_a1_b1)
          have Q67 : Fld Z h63 a1 OB "nodes" "[I" (.ref b1) := Q54.other W63 (Or.inl ne_a1_b1)
          have Q68 : Fld Z h63 a1 OB "buckets" "[I" (.ref b2) := Q55.other W63 (Or.inl ne_a1_b1)
          have Q69 : Fld Z h63 a1 OB "cacheBits" "I" (.int (10 : Int32)) := Q56.other W63 (Or.inl ne_a1_b1)
          have Q70 : Fld Z h63 a1 OB "cache" "[I" (.ref b3) := Q57.other W63 (Or.inl ne_a1_b1)
          have Q71 : Fld Z h63 a1 OB "computations" "J" (.long cp) := Q58.other W63 (Or.inl ne_a1_b1)
          have Q72 : Arv Z h63 b2 k2 .int (64 : Int32) (own_I bs) (.int (0 : Int32)) := Q59.other W63 (Ne.symm ne_b1_b2)
          have Q73 : Arv Z h63 b3 k3 .int (4096 : Int32) (own_I cs) (.int (0 : Int32)) := Q60.other W63 (Ne.symm ne_b1_b3)
          have Q74 : Fld Z h63 a1 OB "size" "I" (.int (sz + (1 : Int32))) := Q61.other W63 (Or.inl ne_a1_b1)
          have U63 : Arv Z h63 b1 k1 .int (256 : Int32) (own_I (((ns.set (4 * n) p2).set (4 * n + 1) p3).set (4 * n + 2) p4)) (.int (0 : Int32)) := own_arvI (Arv.set Ar63 q63 S63 M63 Ha63 G63 rfl W63 (4 * n + 2) (own_jn (own_ixc _ (2 : Int32) (4 * n) 2 (own_ix0 sz n qs (by omega)) rfl (by omega) (by omega))) (by simp only [own_lenI, List.length_set, qI.1.1]; omega))
          have Z63 : n0 ≤ h63.size := Nat.le_trans Z50 (Keep.of_wr W63).1
          have N63 := Fr.snoc X63 N50 g_b1
          have K63 := K50.wr W63 (Or.inl (List.mem_of_getElem? (i := 1) rfl))
          refine own_go st63 ?_
          refine own_go (B := T63.setTop (mkF m 161 #[.val (.ref a1), .val (.int p2), .val (.int p3), .val (.int p4), .val (.int ((own_hash p2 p3 p4 (0 : Int32)) &&& (63 : Int32))), .val (.int sz), .val (.int ((4 : Int32) * sz))] [(.ref a1)])) (fun t k => ?_) ?_
          · refine XS.aloadN X63.here hx rfl (hb hby d9_160) rfl rfl ?_
            exact k
          obtain ⟨T75, X75, e75, st75⟩ := getF X63 hx hZ hown (host := "") (Or.inl (own_w hw 24 rfl)) Via.refl e63 Q67 (g := (mkF m 161 #[.val (.ref a1), .val (.int p2), .val (.int p3), .val (.int p4), .val (.int ((own_hash p2 p3 p4 (0 : Int32)) &&& (63 : Int32))), .val (.int sz), .val (.int ((4 : Int32) * sz))] [(.ref a1)])) rfl rfl (hb hby d9_161)
          refine own_go st75 ?_
          refine own_go (B := T75.setTop (mkF m 169 #[.val (.ref a1), .val (.int p2), .val (.int p3), .val (.int p4), .val (.int ((own_hash p2 p3 p4 (0 : Int32)) &&& (63 : Int32))), .val (.int sz), .val (.int ((4 : Int32) * sz))] [(.ref a1), (.int (((4 : Int32) * sz) + (3 : Int32))), (.ref b1)])) (fun t k => ?_) ?_
          · refine XS.iload X75.here hx rfl (hb hby d9_164) rfl ?_
            refine XS.iconst X75.here hx rfl (hb hby d9_166) ?_
            refine XS.iadd X75.here hx rfl (hb hby d9_167) rfl ?_
            refine XS.aloadN X75.here hx rfl (hb hby d9_168) rfl rfl ?_
            exact k
          obtain ⟨T76, X76, e76, st76⟩ := getF X75 hx hZ hown (host := "") (Or.inl (own_w hw 35 rfl)) Via.refl e75 Q68 (g := (mkF m 169 #[.val (.ref a1), .val (.int p2), .val (.int p3), .val (.int p4), .val (.int ((own_hash p2 p3 p4 (0 : Int32)) &&& (63 : Int32))), .val (.int sz), .val (.int ((4 : Int32) * sz))] [(.ref a1), (.int (((4 : Int32) * sz) + (3 : Int32))), (.ref b1)])) rfl rfl (hb hby d9_169)
          refine own_go st76 ?_
          refine own_go (B := T76.setTop (mkF m 174 #[.val (.ref a1), .val (.int p2), .val (.int p3), .val (.int p4), .val (.int ((own_hash p2 p3 p4 (0 : Int32)) &&& (63 : Int32))), .val (.int sz), .val (.int ((4 : Int32) * sz))] [(.int ((own_hash p2 p3 p4 (0 : Int32)) &&& (63 : Int32))), (.ref b2), (.int (((4 : Int32) * sz) + (3 : Int32))), (.ref b1)])) (fun t k => ?_) ?_
          · refine XS.iload X76.here hx rfl (hb hby d9_172) rfl ?_
            exact k
          obtain ⟨cl77, Ar77, q77, S77, M77, Ha77, G77⟩ := id Q72
          have hin77 : ¬ (((own_hash p2 p3 p4 (0 : Int32)) &&& (63 : Int32)) < 0 ∨ cl77.slots.size ≤ (((own_hash p2 p3 p4 (0 : Int32)) &&& (63 : Int32))).toNatClampNeg) := inb_of S77 (own_bkt _)
          refine own_go (X76.iaload hx (j := ((own_hash p2 p3 p4 (0 : Int32)) &&& (63 : Int32))) (v := (.int (bs.getD (((own_hash p2 p3 p4 (0 : Int32)) &&& (63 : Int32)).toNatClampNeg) 0))) (by rw [e76]; exact Ar77.1) (State.isArrayOf_alike hZ.alike Ar77.2.1) Ar77.2.2 hin77 (Has.at Ha77 hin77 (own_getI2 _ rfl)) (g := (mkF m 174 #[.val (.ref a1), .val (.int p2), .val (.int p3), .val (.int p4), .val (.int ((own_hash p2 p3 p4 (0 : Int32)) &&& (63 : Int32))), .val (.int sz), .val (.int ((4 : Int32) * sz))] [(.int ((own_hash p2 p3 p4 (0 : Int32)) &&& (63 : Int32))), (.ref b2), (.int (((4 : Int32) * sz) + (3 : Int32))), (.ref b1)])) rfl rfl (hb hby d9_174)) ?_
          obtain ⟨cl78, Ar78, q78, S78, M78, Ha78, G78⟩ := U63
          have hin78 : ¬ ((((4 : Int32) * sz) + (3 : Int32)) < 0 ∨ cl78.slots.size ≤ ((((4 : Int32) * sz) + (3 : Int32))).toNatClampNeg) := inb_of S78 (own_jb (own_ixc _ (3 : Int32) (4 * n) 3 (own_ix0 sz n qs (by omega)) rfl (by omega) (by omega)) (m := 256) rfl (by omega))
          obtain ⟨T78, h78, X78, e78, W78, st78⟩ := stI X76 hx hZ e76 Ar78 (j := (((4 : Int32) * sz) + (3 : Int32))) hin78 (g := (mkF m 175 #[.val (.ref a1), .val (.int p2), .val (.int p3), .val (.int p4), .val (.int ((own_hash p2 p3 p4 (0 : Int32)) &&& (63 : Int32))), .val (.int sz), .val (.int ((4 : Int32) * sz))] [(.int (bs.getD (((own_hash p2 p3 p4 (0 : Int32)) &&& (63 : Int32)).toNatClampNeg) 0)), (.int (((4 : Int32) * sz) + (3 : Int32))), (.ref b1)])) rfl rfl (hb hby d9_175)
          have Q79 : Exa Z h78 a1 OB := Q64.wr W78
          have Q80 : Fld Z h78 a1 OB "variableCount" "I" (.int (3 : Int32)) := Q65.other W78 (Or.inl ne_a1_b1)
          have Q81 : Fld Z h78 a1 OB "maxComputations" "J" (.long (9223372036854775807 : Int64)) := Q66.other W78 (Or.inl ne_a1_b1)
          have Q82 : Fld Z h78 a1 OB "nodes" "[I" (.ref b1) := Q67.other W78 (Or.inl ne_a1_b1)
          have Q83 : Fld Z h78 a1 OB "buckets" "[I" (.ref b2) := Q68.other W78 (Or.inl ne_a1_b1)
          have Q84 : Fld Z h78 a1 OB "cacheBits" "I" (.int (10 : Int32)) := Q69.other W78 (Or.inl ne_a1_b1)
          have Q85 : Fld Z h78 a1 OB "cache" "[I" (.ref b3) := Q70.other W78 (Or.inl ne_a1_b1)
          have Q86 : Fld Z h78 a1 OB "computations" "J" (.long cp) := Q71.other W78 (Or.inl ne_a1_b1)
          have Q87 : Arv Z h78 b2 k2 .int (64 : Int32) (own_I bs) (.int (0 : Int32)) := Q72.other W78 (Ne.symm ne_b1_b2)
          have Q88 : Arv Z h78 b3 k3 .int (4096 : Int32) (own_I cs) (.int (0 : Int32)) := Q73.other W78 (Ne.symm ne_b1_b3)
          have Q89 : Fld Z h78 a1 OB "size" "I" (.int (sz + (1 : Int32))) := Q74.other W78 (Or.inl ne_a1_b1)
          have U78 : Arv Z h78 b1 k1 .int (256 : Int32) (own_I ((((ns.set (4 * n) p2).set (4 * n + 1) p3).set (4 * n + 2) p4).set (4 * n + 3) (bs.getD (((own_hash p2 p3 p4 (0 : Int32)) &&& (63 : Int32)).toNatClampNeg) 0))) (.int (0 : Int32)) := own_arvI (Arv.set Ar78 q78 S78 M78 Ha78 G78 rfl W78 (4 * n + 3) (own_jn (own_ixc _ (3 : Int32) (4 * n) 3 (own_ix0 sz n qs (by omega)) rfl (by omega) (by omega))) (by simp only [own_lenI, List.length_set, qI.1.1]; omega))
          have Z78 : n0 ≤ h78.size := Nat.le_trans Z63 (Keep.of_wr W78).1
          have N78 := Fr.snoc X78 N63 g_b1
          have K78 := K63.wr W78 (Or.inl (List.mem_of_getElem? (i := 1) rfl))
          refine own_go st78 ?_
          refine own_go (B := T78.setTop (mkF m 177 #[.val (.ref a1), .val (.int p2), .val (.int p3), .val (.int p4), .val (.int ((own_hash p2 p3 p4 (0 : Int32)) &&& (63 : Int32))), .val (.int sz), .val (.int ((4 : Int32) * sz))] [(.ref a1)])) (fun t k => ?_) ?_
          · refine XS.aloadN X78.here hx rfl (hb hby d9_176) rfl rfl ?_
            exact k
          obtain ⟨T90, X90, e90, st90⟩ := getF X78 hx hZ hown (host := "") (Or.inl (own_w hw 35 rfl)) Via.refl e78 Q83 (g := (mkF m 177 #[.val (.ref a1), .val (.int p2), .val (.int p3), .val (.int p4), .val (.int ((own_hash p2 p3 p4 (0 : Int32)) &&& (63 : Int32))), .val (.int sz), .val (.int ((4 : Int32) * sz))] [(.ref a1)])) rfl rfl (hb hby d9_177)
          refine own_go st90 ?_
          refine own_go (B := T90.setTop (mkF m 184 #[.val (.ref a1), .val (.int p2), .val (.int p3), .val (.int p4), .val (.int ((own_hash p2 p3 p4 (0 : Int32)) &&& (63 : Int32))), .val (.int sz), .val (.int ((4 : Int32) * sz))] [(.int sz), (.int ((own_hash p2 p3 p4 (0 : Int32)) &&& (63 : Int32))), (.ref b2)])) (fun t k => ?_) ?_
          · refine XS.iload X90.here hx rfl (hb hby d9_180) rfl ?_
            refine XS.iload X90.here hx rfl (hb hby d9_182) rfl ?_
            exact k
          obtain ⟨cl91, Ar91, q91, S91, M91, Ha91, G91⟩ := Q87
          have hin91 : ¬ (((own_hash p2 p3 p4 (0 : Int32)) &&& (63 : Int32)) < 0 ∨ cl91.slots.size ≤ (((own_hash p2 p3 p4 (0 : Int32)) &&& (63 : Int32))).toNatClampNeg) := inb_of S91 (own_bkt _)
          obtain ⟨T91, h91, X91, e91, W91, st91⟩ := stI X90 hx hZ e90 Ar91 (j := ((own_hash p2 p3 p4 (0 : Int32)) &&& (63 : Int32))) hin91 (g := (mkF m 184 #[.val (.ref a1), .val (.int p2), .val (.int p3), .val (.int p4), .val (.int ((own_hash p2 p3 p4 (0 : Int32)) &&& (63 : Int32))), .val (.int sz), .val (.int ((4 : Int32) * sz))] [(.int sz), (.int ((own_hash p2 p3 p4 (0 : Int32)) &&& (63 : Int32))), (.ref b2)])) rfl rfl (hb hby d9_184)
          have Q92 : Exa Z h91 a1 OB := Q79.wr W91
          have Q93 : Fld Z h91 a1 OB "variableCount" "I" (.int (3 : Int32)) := Q80.other W91 (Or.inl ne_a1_b2)
          have Q94 : Fld Z h91 a1 OB "maxComputations" "J" (.long (9223372036854775807 : Int64)) := Q81.other W91 (Or.inl ne_a1_b2)
          have Q95 : Fld Z h91 a1 OB "nodes" "[I" (.ref b1) := Q82.other W91 (Or.inl ne_a1_b2)
          have Q96 : Fld Z h91 a1 OB "buckets" "[I" (.ref b2) := Q83.other W91 (Or.inl ne_a1_b2)
          have Q97 : Fld Z h91 a1 OB "cacheBits" "I" (.int (10 : Int32)) := Q84.other W91 (Or.inl ne_a1_b2)
          have Q98 : Fld Z h91 a1 OB "cache" "[I" (.ref b3) := Q85.other W91 (Or.inl ne_a1_b2)
          have Q99 : Fld Z h91 a1 OB "computations" "J" (.long cp) := Q86.other W91 (Or.inl ne_a1_b2)
          have Q100 : Arv Z h91 b3 k3 .int (4096 : Int32) (own_I cs) (.int (0 : Int32)) := Q88.other W91 (Ne.symm ne_b2_b3)
          have Q101 : Fld Z h91 a1 OB "size" "I" (.int (sz + (1 : Int32))) := Q89.other W91 (Or.inl ne_a1_b2)
          have Q102 : Arv Z h91 b1 k1 .int (256 : Int32) (own_I ((((ns.set (4 * n) p2).set (4 * n + 1) p3).set (4 * n + 2) p4).set (4 * n + 3) (bs.getD (((own_hash p2 p3 p4 (0 : Int32)) &&& (63 : Int32)).toNatClampNeg) 0))) (.int (0 : Int32)) := U78.other W91 ne_b1_b2
          have U91 : Arv Z h91 b2 k2 .int (64 : Int32) (own_I (bs.set (((own_hash p2 p3 p4 (0 : Int32)) &&& (63 : Int32)).toNatClampNeg) sz)) (.int (0 : Int32)) := own_arvI (Arv.set Ar91 q91 S91 M91 Ha91 G91 rfl W91 (((own_hash p2 p3 p4 (0 : Int32)) &&& (63 : Int32)).toNatClampNeg) rfl (by rw [own_lenI, qI.2.1.1]; exact own_bktn _))
          have Z91 : n0 ≤ h91.size := Nat.le_trans Z78 (Keep.of_wr W91).1
          have N91 := Fr.snoc X91 N78 g_b2
          have K91 := K78.wr W91 (Or.inl (List.mem_of_getElem? (i := 2) rfl))
          refine own_go st91 ?_
          refine own_go (B := T91.setTop (mkF m 187 #[.val (.ref a1), .val (.int p2), .val (.int p3), .val (.int p4), .val (.int ((own_hash p2 p3 p4 (0 : Int32)) &&& (63 : Int32))), .val (.int sz), .val (.int ((4 : Int32) * sz))] [(.int sz)])) (fun t k => ?_) ?_
          · refine XS.iload X91.here hx rfl (hb hby d9_185) rfl ?_
            exact k
          obtain ⟨fs, hr, hrun, hended, hW, hsame⟩ := X91.leave (v := some (.int sz)) (fun h => by rw [Bd.returns] at h; cases h)
          refine ⟨_, _, ?_, hrun, hended, _, _, rfl, ?_, ⟨_, rfl⟩, hW, hsame.mono (by decide) (by decide)⟩
          · show Steps p.tables e below (T91.setTop (mkF m 187 #[.val (.ref a1), .val (.int p2), .val (.int p3), .val (.int p4), .val (.int ((own_hash p2 p3 p4 (0 : Int32)) &&& (63 : Int32))), .val (.int sz), .val (.int ((4 : Int32) * sz))] [(.int sz)])) _
            exact retOut X91 hx Bd.returns rfl (Or.inl ⟨rfl, Or.inl rfl, _, rfl⟩) (hb hby d9_187) hr
          · show Qrm9 Z a1 p2 p3 p4 b1 b2 b3 k1 k2 k3 ns bs cs sz cp n h0 n0 _ T91.heap _
            rw [e91]
            exact ⟨((((ns.set (4 * n) p2).set (4 * n + 1) p3).set (4 * n + 2) p4).set (4 * n + 3) (bs.getD (((own_hash p2 p3 p4 (0 : Int32)) &&& (63 : Int32)).toNatClampNeg) 0)), (bs.set (((own_hash p2 p3 p4 (0 : Int32)) &&& (63 : Int32)).toNatClampNeg) sz), (sz + (1 : Int32)), (n + 1), sz, rfl, N91, K91, Q92, Q93, Q94, Q95, Q96, Q97, Q98, Q101, Q99, Q102, U91, Q100, own_np_new qI qs qn qv ql qh qvl qvh (own_bktn _)⟩
        · refine own_go (B := Tq17.setTop (mkF m 38 #[.val (.ref a1), .val (.int p2), .val (.int p3), .val (.int p4), .val (.int ((own_hash p2 p3 p4 (0 : Int32)) &&& (63 : Int32))), .val (.int x5), .unset] [])) (fun t k => ?_) ?_
          · refine XS.ifNo Xq17.here hx rfl (hb hby d9_35) rfl ((if0 _ _).trans (flt hc35_18).1) ?_
            exact k
          have qge : 0 ≤ x5.toInt := own_ge hc35_18
          have qxl : x5.toInt < n := qx.2
          have q2 : 2 ≤ x5.toInt := by omega
          refine own_go (B := Tq17.setTop (mkF m 41 #[.val (.ref a1), .val (.int p2), .val (.int p3), .val (.int p4), .val (.int ((own_hash p2 p3 p4 (0 : Int32)) &&& (63 : Int32))), .val (.int x5), .unset] [(.int x5), (.ref a1)])) (fun t k => ?_) ?_
          · refine XS.aloadN Xq17.here hx rfl (hb hby d9_38) rfl rfl ?_
            refine XS.iload Xq17.here hx rfl (hb hby d9_39) rfl ?_
            exact k
          obtain ⟨cq103, q103, q103'⟩ := P0.cell
          obtain ⟨_, _, ⟨T103, L103, k103, n103⟩, -, X103, ⟨Lc103, hQ103, l103, y103, z103⟩, st103⟩ := Xq17.privateBack hx (y := (⟨OB, "variableOf", "(I)I"⟩ : MethodName)) hown (mvT hZ (own_w hw 102 rfl)) (mvT hZ (own_w hw 103 rfl)) (own_selp (mvT hZ (own_w hw 50 rfl)) rfl (Cond.privateMethod_at (mvP hZ (own_w hw 104 rfl) (args := #[]))) (mvT hZ (own_w hw 103 rfl)) (by decide)) (Cond.privateMethod_at (mvP hZ (own_w hw 104 rfl) (args := #[]))) (mvT hZ (own_w hw 105 rfl)) (by decide) (backOf (W := 0) (rm20 l Z a0 hw [] a1 x5 b1 k1 ns (x5.toInt.toNat) h0 n0 Z0 P3 P9 (own_nn qge) (by have := qI.1.2.2.1; omega)) hZ (own_w hw 105 rfl) (own_w hw 5 rfl) (by decide) (by decide)) (g := (mkF m 41 #[.val (.ref a1), .val (.int p2), .val (.int p3), .val (.int p4), .val (.int ((own_hash p2 p3 p4 (0 : Int32)) &&& (63 : Int32))), .val (.int x5), .unset] [(.int x5), (.ref a1)])) rfl (by rw [hml]; rfl) (Steps.refl _) (a := a1) (by rw [eq17]; exact q103) q103' (argsL := [(.int x5)]) (rest := []) (lenOf pd_2 rfl) rfl (by show 2 * 0 + _ ≤ _; exact Nat.le_of_eq rfl) (hb hby d9_41) (fun _ _ => ⟨rfl, eq17, (by decide : 0 + 0 ≤ _), (by decide : 0 + 0 ≤ _)⟩)
          dsimp only [Pt.U, Pt.locs, Pt.cells, Pt.slots] at X103 l103 y103 z103 st103 hQ103
          subst l103 y103 z103
          obtain ⟨rfl, Nq103, e103⟩ := hQ103
          have N103 := Fr.app Nq17 Nq103
          refine own_go (B := T103.setTop (mkF m 44 #[.val (.ref a1), .val (.int p2), .val (.int p3), .val (.int p4), .val (.int ((own_hash p2 p3 p4 (0 : Int32)) &&& (63 : Int32))), .val (.int x5), .unset] [(.int (ns.getD (4 * (x5.toInt.toNat)) 0))])) (fun t k => st103.trans k) ?_
          refine own_go (B := T103.setTop (mkF m 45 #[.val (.ref a1), .val (.int p2), .val (.int p3), .val (.int p4), .val (.int ((own_hash p2 p3 p4 (0 : Int32)) &&& (63 : Int32))), .val (.int x5), .unset] [(.int p2), (.int (ns.getD (4 * (x5.toInt.toNat)) 0))])) (fun t k => ?_) ?_
          · refine XS.iloadN X103.here hx rfl (hb hby d9_44) rfl ?_
            exact k
          by_cases hc45_104 : (ns.getD (4 * (x5.toInt.toNat)) 0) = p2
          · refine own_go (B := T103.setTop (mkF m 48 #[.val (.ref a1), .val (.int p2), .val (.int p3), .val (.int p4), .val (.int ((own_hash p2 p3 p4 (0 : Int32)) &&& (63 : Int32))), .val (.int x5), .unset] [])) (fun t k => ?_) ?_
            · refine XS.icmpNo X103.here hx rfl (hb hby d9_45) rfl (teq hc45_104).2 ?_
              exact k
            refine own_go (B := T103.setTop (mkF m 51 #[.val (.ref a1), .val (.int p2), .val (.int p3), .val (.int p4), .val (.int ((own_hash p2 p3 p4 (0 : Int32)) &&& (63 : Int32))), .val (.int x5), .unset] [(.int x5), (.ref a1)])) (fun t k => ?_) ?_
            · refine XS.aloadN X103.here hx rfl (hb hby d9_48) rfl rfl ?_
              refine XS.iload X103.here hx rfl (hb hby d9_49) rfl ?_
              exact k
            obtain ⟨cq105, q105, q105'⟩ := P0.cell
            obtain ⟨_, _, ⟨T105, L105, k105, n105⟩, -, X105, ⟨Lc105, hQ105, l105, y105, z105⟩, st105⟩ := X103.privateBack hx (y := (⟨OB, "low", "(I)I"⟩ : MethodName)) hown (mvT hZ (own_w hw 110 rfl)) (mvT hZ (own_w hw 111 rfl)) (own_selp (mvT hZ (own_w hw 50 rfl)) rfl (Cond.privateMethod_at (mvP hZ (own_w hw 112 rfl) (args := #[]))) (mvT hZ (own_w hw 111 rfl)) (by decide)) (Cond.privateMethod_at (mvP hZ (own_w hw 112 rfl) (args := #[]))) (mvT hZ (own_w hw 113 rfl)) (by decide) (backOf (W := 0) (rm22 l Z a0 hw [] a1 x5 b1 k1 ns (x5.toInt.toNat) h0 n0 Z0 P3 P9 (own_nn qge) (by have := qI.1.2.2.1; omega)) hZ (own_w hw 113 rfl) (own_w hw 5 rfl) (by decide) (by decide)) (g := (mkF m 51 #[.val (.ref a1), .val (.int p2), .val (.int p3), .val (.int p4), .val (.int ((own_hash p2 p3 p4 (0 : Int32)) &&& (63 : Int32))), .val (.int x5), .unset] [(.int x5), (.ref a1)])) rfl (by rw [hml]; rfl) (Steps.refl _) (a := a1) (by rw [e103]; exact q105) q105' (argsL := [(.int x5)]) (rest := []) (lenOf pd_2 rfl) rfl (by show 2 * 0 + _ ≤ _; exact Nat.le_of_eq rfl) (hb hby d9_51) (fun _ _ => ⟨rfl, e103, (by decide : 0 + 0 ≤ _), (by decide : 0 + 0 ≤ _)⟩)
            dsimp only [Pt.U, Pt.locs, Pt.cells, Pt.slots] at X105 l105 y105 z105 st105 hQ105
            subst l105 y105 z105
            obtain ⟨rfl, Nq105, e105⟩ := hQ105
            have N105 := Fr.app N103 Nq105
            refine own_go (B := T105.setTop (mkF m 54 #[.val (.ref a1), .val (.int p2), .val (.int p3), .val (.int p4), .val (.int ((own_hash p2 p3 p4 (0 : Int32)) &&& (63 : Int32))), .val (.int x5), .unset] [(.int (ns.getD (4 * (x5.toInt.toNat) + 1) 0))])) (fun t k => st105.trans k) ?_
            refine own_go (B := T105.setTop (mkF m 55 #[.val (.ref a1), .val (.int p2), .val (.int p3), .val (.int p4), .val (.int ((own_hash p2 p3 p4 (0 : Int32)) &&& (63 : Int32))), .val (.int x5), .unset] [(.int p3), (.int (ns.getD (4 * (x5.toInt.toNat) + 1) 0))])) (fun t k => ?_) ?_
            · refine XS.iloadN X105.here hx rfl (hb hby d9_54) rfl ?_
              exact k
            by_cases hc55_106 : (ns.getD (4 * (x5.toInt.toNat) + 1) 0) = p3
            · refine own_go (B := T105.setTop (mkF m 58 #[.val (.ref a1), .val (.int p2), .val (.int p3), .val (.int p4), .val (.int ((own_hash p2 p3 p4 (0 : Int32)) &&& (63 : Int32))), .val (.int x5), .unset] [])) (fun t k => ?_) ?_
              · refine XS.icmpNo X105.here hx rfl (hb hby d9_55) rfl (teq hc55_106).2 ?_
                exact k
              refine own_go (B := T105.setTop (mkF m 61 #[.val (.ref a1), .val (.int p2), .val (.int p3), .val (.int p4), .val (.int ((own_hash p2 p3 p4 (0 : Int32)) &&& (63 : Int32))), .val (.int x5), .unset] [(.int x5), (.ref a1)])) (fun t k => ?_) ?_
              · refine XS.aloadN X105.here hx rfl (hb hby d9_58) rfl rfl ?_
                refine XS.iload X105.here hx rfl (hb hby d9_59) rfl ?_
                exact k
              obtain ⟨cq107, q107, q107'⟩ := P0.cell
              obtain ⟨_, _, ⟨T107, L107, k107, n107⟩, -, X107, ⟨Lc107, hQ107, l107, y107, z107⟩, st107⟩ := X105.privateBack hx (y := (⟨OB, "high", "(I)I"⟩ : MethodName)) hown (mvT hZ (own_w hw 114 rfl)) (mvT hZ (own_w hw 115 rfl)) (own_selp (mvT hZ (own_w hw 50 rfl)) rfl (Cond.privateMethod_at (mvP hZ (own_w hw 116 rfl) (args := #[]))) (mvT hZ (own_w hw 115 rfl)) (by decide)) (Cond.privateMethod_at (mvP hZ (own_w hw 116 rfl) (args := #[]))) (mvT hZ (own_w hw 117 rfl)) (by decide) (backOf (W := 0) (rm23 l Z a0 hw [] a1 x5 b1 k1 ns (x5.toInt.toNat) h0 n0 Z0 P3 P9 (own_nn qge) (by have := qI.1.2.2.1; omega)) hZ (own_w hw 117 rfl) (own_w hw 5 rfl) (by decide) (by decide)) (g := (mkF m 61 #[.val (.ref a1), .val (.int p2), .val (.int p3), .val (.int p4), .val (.int ((own_hash p2 p3 p4 (0 : Int32)) &&& (63 : Int32))), .val (.int x5), .unset] [(.int x5), (.ref a1)])) rfl (by rw [hml]; rfl) (Steps.refl _) (a := a1) (by rw [e105]; exact q107) q107' (argsL := [(.int x5)]) (rest := []) (lenOf pd_2 rfl) rfl (by show 2 * 0 + _ ≤ _; exact Nat.le_of_eq rfl) (hb hby d9_61) (fun _ _ => ⟨rfl, e105, (by decide : 0 + 0 ≤ _), (by decide : 0 + 0 ≤ _)⟩)
              dsimp only [Pt.U, Pt.locs, Pt.cells, Pt.slots] at X107 l107 y107 z107 st107 hQ107
              subst l107 y107 z107
              obtain ⟨rfl, Nq107, e107⟩ := hQ107
              have N107 := Fr.app N105 Nq107
              refine own_go (B := T107.setTop (mkF m 64 #[.val (.ref a1), .val (.int p2), .val (.int p3), .val (.int p4), .val (.int ((own_hash p2 p3 p4 (0 : Int32)) &&& (63 : Int32))), .val (.int x5), .unset] [(.int (ns.getD (4 * (x5.toInt.toNat) + 2) 0))])) (fun t k => st107.trans k) ?_
              refine own_go (B := T107.setTop (mkF m 65 #[.val (.ref a1), .val (.int p2), .val (.int p3), .val (.int p4), .val (.int ((own_hash p2 p3 p4 (0 : Int32)) &&& (63 : Int32))), .val (.int x5), .unset] [(.int p4), (.int (ns.getD (4 * (x5.toInt.toNat) + 2) 0))])) (fun t k => ?_) ?_
              · refine XS.iloadN X107.here hx rfl (hb hby d9_64) rfl ?_
                exact k
              by_cases hc65_108 : (ns.getD (4 * (x5.toInt.toNat) + 2) 0) = p4
              · refine own_go (B := T107.setTop (mkF m 68 #[.val (.ref a1), .val (.int p2), .val (.int p3), .val (.int p4), .val (.int ((own_hash p2 p3 p4 (0 : Int32)) &&& (63 : Int32))), .val (.int x5), .unset] [])) (fun t k => ?_) ?_
                · refine XS.icmpNo X107.here hx rfl (hb hby d9_65) rfl (teq hc65_108).2 ?_
                  exact k
                refine own_go (B := T107.setTop (mkF m 70 #[.val (.ref a1), .val (.int p2), .val (.int p3), .val (.int p4), .val (.int ((own_hash p2 p3 p4 (0 : Int32)) &&& (63 : Int32))), .val (.int x5), .unset] [(.int x5)])) (fun t k => ?_) ?_
                · refine XS.iload X107.here hx rfl (hb hby d9_68) rfl ?_
                  exact k
                obtain ⟨fs, hr, hrun, hended, hW, hsame⟩ := X107.leave (v := some (.int x5)) (fun h => by rw [Bd.returns] at h; cases h)
                refine ⟨_, _, ?_, hrun, hended, _, _, rfl, ?_, ⟨_, rfl⟩, hW, hsame.mono (by decide) (by decide)⟩
                · show Steps p.tables e below (T107.setTop (mkF m 70 #[.val (.ref a1), .val (.int p2), .val (.int p3), .val (.int p4), .val (.int ((own_hash p2 p3 p4 (0 : Int32)) &&& (63 : Int32))), .val (.int x5), .unset] [(.int x5)])) _
                  exact retOut X107 hx Bd.returns rfl (Or.inl ⟨rfl, Or.inl rfl, _, rfl⟩) (hb hby d9_70) hr
                · show Qrm9 Z a1 p2 p3 p4 b1 b2 b3 k1 k2 k3 ns bs cs sz cp n h0 n0 _ T107.heap _
                  rw [e107]
                  exact ⟨ns, bs, sz, n, x5, rfl, N107, K0, P0, P1, P2, P3, P4, P5, P6, P7, P8, P9, P10, P11, own_np_found qI qs qv qge qxl hc45_104 hc55_106 hc65_108⟩
              · refine own_go (B := T107.setTop (mkF m 71 #[.val (.ref a1), .val (.int p2), .val (.int p3), .val (.int p4), .val (.int ((own_hash p2 p3 p4 (0 : Int32)) &&& (63 : Int32))), .val (.int x5), .unset] [])) (fun t k => ?_) ?_
                · refine XS.icmpYes X107.here hx rfl (pc0 := 65) (pc' := 71) rfl (hb hby d9_65) rfl (feq hc65_108).2 (by decide) (by decide) ?_
                  exact k
                refine own_go (B := T107.setTop (mkF m 72 #[.val (.ref a1), .val (.int p2), .val (.int p3), .val (.int p4), .val (.int ((own_hash p2 p3 p4 (0 : Int32)) &&& (63 : Int32))), .val (.int x5), .unset] [(.ref a1)])) (fun t k => ?_) ?_
                · refine XS.aloadN X107.here hx rfl (hb hby d9_71) rfl rfl ?_
                  exact k
                obtain ⟨T109, X109, e109, st109⟩ := getF X107 hx hZ hown (host := "") (Or.inl (own_w hw 24 rfl)) Via.refl e107 P3 (g := (mkF m 72 #[.val (.ref a1), .val (.int p2), .val (.int p3), .val (.int p4), .val (.int ((own_hash p2 p3 p4 (0 : Int32)) &&& (63 : Int32))), .val (.int x5), .unset] [(.ref a1)])) rfl rfl (hb hby d9_72)
                refine own_go st109 ?_
                refine own_go (B := T109.setTop (mkF m 81 #[.val (.ref a1), .val (.int p2), .val (.int p3), .val (.int p4), .val (.int ((own_hash p2 p3 p4 (0 : Int32)) &&& (63 : Int32))), .val (.int x5), .unset] [(.int (((4 : Int32) * x5) + (3 : Int32))), (.ref b1)])) (fun t k => ?_) ?_
                · refine XS.iconst X109.here hx rfl (hb hby d9_75) ?_
                  refine XS.iload X109.here hx rfl (hb hby d9_76) rfl ?_
                  refine XS.imul X109.here hx rfl (hb hby d9_78) rfl ?_
                  refine XS.iconst X109.here hx rfl (hb hby d9_79) ?_
                  refine XS.iadd X109.here hx rfl (hb hby d9_80) rfl ?_
                  exact k
                obtain ⟨cl110, Ar110, q110, S110, M110, Ha110, G110⟩ := id P9
                have hin110 : ¬ ((((4 : Int32) * x5) + (3 : Int32)) < 0 ∨ cl110.slots.size ≤ ((((4 : Int32) * x5) + (3 : Int32))).toNatClampNeg) := inb_of S110 (own_jb (own_ixc _ (3 : Int32) (4 * x5.toInt.toNat) 3 (own_ix0 x5 x5.toInt.toNat (own_nn qge) (by omega)) rfl (by omega) (by omega)) (m := 256) rfl (by omega))
                refine own_go (X109.iaload hx (j := (((4 : Int32) * x5) + (3 : Int32))) (v := (.int (ns.getD (4 * x5.toInt.toNat + 3) 0))) (by rw [e109]; exact Ar110.1) (State.isArrayOf_alike hZ.alike Ar110.2.1) Ar110.2.2 hin110 (Has.at Ha110 hin110 (own_getI2 _ (own_jn (own_ixc _ (3 : Int32) (4 * x5.toInt.toNat) 3 (own_ix0 x5 x5.toInt.toNat (own_nn qge) (by omega)) rfl (by omega) (by omega))))) (g := (mkF m 81 #[.val (.ref a1), .val (.int p2), .val (.int p3), .val (.int p4), .val (.int ((own_hash p2 p3 p4 (0 : Int32)) &&& (63 : Int32))), .val (.int x5), .unset] [(.int (((4 : Int32) * x5) + (3 : Int32))), (.ref b1)])) rfl rfl (hb hby d9_81)) ?_
                refine own_go (B := T109.setTop (mkF m 33 #[.val (.ref a1), .val (.int p2), .val (.int p3), .val (.int p4), .val (.int ((own_hash p2 p3 p4 (0 : Int32)) &&& (63 : Int32))), .val (.int (ns.getD (4 * x5.toInt.toNat + 3) 0)), .unset] [])) (fun t k => ?_) ?_
                · refine XS.istore X109.here hx rfl (hb hby d9_82) rfl (l' := #[.val (.ref a1), .val (.int p2), .val (.int p3), .val (.int p4), .val (.int ((own_hash p2 p3 p4 (0 : Int32)) &&& (63 : Int32))), .val (.int (ns.getD (4 * x5.toInt.toNat + 3) 0)), .unset]) rfl ?_
                  refine XS.goto X109.here hx rfl (pc0 := 84) (pc' := 33) rfl (hb hby d9_84) (by decide) (by decide) ?_
                  exact k
                exact ih ((ns.getD (4 * x5.toInt.toNat + 3) 0)) T109 _ (own_chain_mu qI q2 qxl hmu) (own_chain_in qI q2 qxl) X109 e109 N107 
            · refine own_go (B := T105.setTop (mkF m 71 #[.val (.ref a1), .val (.int p2), .val (.int p3), .val (.int p4), .val (.int ((own_hash p2 p3 p4 (0 : Int32)) &&& (63 : Int32))), .val (.int x5), .unset] [])) (fun t k => ?_) ?_
              · refine XS.icmpYes X105.here hx rfl (pc0 := 55) (pc' := 71) rfl (hb hby d9_55) rfl (feq hc55_106).2 (by decide) (by decide) ?_
                exact k
              refine own_go (B := T105.setTop (mkF m 72 #[.val (.ref a1), .val (.int p2), .val (.int p3), .val (.int p4), .val (.int ((own_hash p2 p3 p4 (0 : Int32)) &&& (63 : Int32))), .val (.int x5), .unset] [(.ref a1)])) (fun t k => ?_) ?_
              · refine XS.aloadN X105.here hx rfl (hb hby d9_71) rfl rfl ?_
                exact k
              obtain ⟨T111, X111, e111, st111⟩ := getF X105 hx hZ hown (host := "") (Or.inl (own_w hw 24 rfl)) Via.refl e105 P3 (g := (mkF m 72 #[.val (.ref a1), .val (.int p2), .val (.int p3), .val (.int p4), .val (.int ((own_hash p2 p3 p4 (0 : Int32)) &&& (63 : Int32))), .val (.int x5), .unset] [(.ref a1)])) rfl rfl (hb hby d9_72)
              refine own_go st111 ?_
              refine own_go (B := T111.setTop (mkF m 81 #[.val (.ref a1), .val (.int p2), .val (.int p3), .val (.int p4), .val (.int ((own_hash p2 p3 p4 (0 : Int32)) &&& (63 : Int32))), .val (.int x5), .unset] [(.int (((4 : Int32) * x5) + (3 : Int32))), (.ref b1)])) (fun t k => ?_) ?_
              · refine XS.iconst X111.here hx rfl (hb hby d9_75) ?_
                refine XS.iload X111.here hx rfl (hb hby d9_76) rfl ?_
                refine XS.imul X111.here hx rfl (hb hby d9_78) rfl ?_
                refine XS.iconst X111.here hx rfl (hb hby d9_79) ?_
                refine XS.iadd X111.here hx rfl (hb hby d9_80) rfl ?_
                exact k
              obtain ⟨cl112, Ar112, q112, S112, M112, Ha112, G112⟩ := id P9
              have hin112 : ¬ ((((4 : Int32) * x5) + (3 : Int32)) < 0 ∨ cl112.slots.size ≤ ((((4 : Int32) * x5) + (3 : Int32))).toNatClampNeg) := inb_of S112 (own_jb (own_ixc _ (3 : Int32) (4 * x5.toInt.toNat) 3 (own_ix0 x5 x5.toInt.toNat (own_nn qge) (by omega)) rfl (by omega) (by omega)) (m := 256) rfl (by omega))
              refine own_go (X111.iaload hx (j := (((4 : Int32) * x5) + (3 : Int32))) (v := (.int (ns.getD (4 * x5.toInt.toNat + 3) 0))) (by rw [e111]; exact Ar112.1) (State.isArrayOf_alike hZ.alike Ar112.2.1) Ar112.2.2 hin112 (Has.at Ha112 hin112 (own_getI2 _ (own_jn (own_ixc _ (3 : Int32) (4 * x5.toInt.toNat) 3 (own_ix0 x5 x5.toInt.toNat (own_nn qge) (by omega)) rfl (by omega) (by omega))))) (g := (mkF m 81 #[.val (.ref a1), .val (.int p2), .val (.int p3), .val (.int p4), .val (.int ((own_hash p2 p3 p4 (0 : Int32)) &&& (63 : Int32))), .val (.int x5), .unset] [(.int (((4 : Int32) * x5) + (3 : Int32))), (.ref b1)])) rfl rfl (hb hby d9_81)) ?_
              refine own_go (B := T111.setTop (mkF m 33 #[.val (.ref a1), .val (.int p2), .val (.int p3), .val (.int p4), .val (.int ((own_hash p2 p3 p4 (0 : Int32)) &&& (63 : Int32))), .val (.int (ns.getD (4 * x5.toInt.toNat + 3) 0)), .unset] [])) (fun t k => ?_) ?_
              · refine XS.istore X111.here hx rfl (hb hby d9_82) rfl (l' := #[.val (.ref a1), .val (.int p2), .val (.int p3), .val (.int p4), .val (.int ((own_hash p2 p3 p4 (0 : Int32)) &&& (63 : Int32))), .val (.int (ns.getD (4 * x5.toInt.toNat + 3) 0)), .unset]) rfl ?_
                refine XS.goto X111.here hx rfl (pc0 := 84) (pc' := 33) rfl (hb hby d9_84) (by decide) (by decide) ?_
                exact k
              exact ih ((ns.getD (4 * x5.toInt.toNat + 3) 0)) T111 _ (own_chain_mu qI q2 qxl hmu) (own_chain_in qI q2 qxl) X111 e111 N105 
          · refine own_go (B := T103.setTop (mkF m 71 #[.val (.ref a1), .val (.int p2), .val (.int p3), .val (.int p4), .val (.int ((own_hash p2 p3 p4 (0 : Int32)) &&& (63 : Int32))), .val (.int x5), .unset] [])) (fun t k => ?_) ?_
            · refine XS.icmpYes X103.here hx rfl (pc0 := 45) (pc' := 71) rfl (hb hby d9_45) rfl (feq hc45_104).2 (by decide) (by decide) ?_
              exact k
            refine own_go (B := T103.setTop (mkF m 72 #[.val (.ref a1), .val (.int p2), .val (.int p3), .val (.int p4), .val (.int ((own_hash p2 p3 p4 (0 : Int32)) &&& (63 : Int32))), .val (.int x5), .unset] [(.ref a1)])) (fun t k => ?_) ?_
            · refine XS.aloadN X103.here hx rfl (hb hby d9_71) rfl rfl ?_
              exact k
            obtain ⟨T113, X113, e113, st113⟩ := getF X103 hx hZ hown (host := "") (Or.inl (own_w hw 24 rfl)) Via.refl e103 P3 (g := (mkF m 72 #[.val (.ref a1), .val (.int p2), .val (.int p3), .val (.int p4), .val (.int ((own_hash p2 p3 p4 (0 : Int32)) &&& (63 : Int32))), .val (.int x5), .unset] [(.ref a1)])) rfl rfl (hb hby d9_72)
            refine own_go st113 ?_
            refine own_go (B := T113.setTop (mkF m 81 #[.val (.ref a1), .val (.int p2), .val (.int p3), .val (.int p4), .val (.int ((own_hash p2 p3 p4 (0 : Int32)) &&& (63 : Int32))), .val (.int x5), .unset] [(.int (((4 : Int32) * x5) + (3 : Int32))), (.ref b1)])) (fun t k => ?_) ?_
            · refine XS.iconst X113.here hx rfl (hb hby d9_75) ?_
              refine XS.iload X113.here hx rfl (hb hby d9_76) rfl ?_
              refine XS.imul X113.here hx rfl (hb hby d9_78) rfl ?_
              refine XS.iconst X113.here hx rfl (hb hby d9_79) ?_
              refine XS.iadd X113.here hx rfl (hb hby d9_80) rfl ?_
              exact k
            obtain ⟨cl114, Ar114, q114, S114, M114, Ha114, G114⟩ := id P9
            have hin114 : ¬ ((((4 : Int32) * x5) + (3 : Int32)) < 0 ∨ cl114.slots.size ≤ ((((4 : Int32) * x5) + (3 : Int32))).toNatClampNeg) := inb_of S114 (own_jb (own_ixc _ (3 : Int32) (4 * x5.toInt.toNat) 3 (own_ix0 x5 x5.toInt.toNat (own_nn qge) (by omega)) rfl (by omega) (by omega)) (m := 256) rfl (by omega))
            refine own_go (X113.iaload hx (j := (((4 : Int32) * x5) + (3 : Int32))) (v := (.int (ns.getD (4 * x5.toInt.toNat + 3) 0))) (by rw [e113]; exact Ar114.1) (State.isArrayOf_alike hZ.alike Ar114.2.1) Ar114.2.2 hin114 (Has.at Ha114 hin114 (own_getI2 _ (own_jn (own_ixc _ (3 : Int32) (4 * x5.toInt.toNat) 3 (own_ix0 x5 x5.toInt.toNat (own_nn qge) (by omega)) rfl (by omega) (by omega))))) (g := (mkF m 81 #[.val (.ref a1), .val (.int p2), .val (.int p3), .val (.int p4), .val (.int ((own_hash p2 p3 p4 (0 : Int32)) &&& (63 : Int32))), .val (.int x5), .unset] [(.int (((4 : Int32) * x5) + (3 : Int32))), (.ref b1)])) rfl rfl (hb hby d9_81)) ?_
            refine own_go (B := T113.setTop (mkF m 33 #[.val (.ref a1), .val (.int p2), .val (.int p3), .val (.int p4), .val (.int ((own_hash p2 p3 p4 (0 : Int32)) &&& (63 : Int32))), .val (.int (ns.getD (4 * x5.toInt.toNat + 3) 0)), .unset] [])) (fun t k => ?_) ?_
            · refine XS.istore X113.here hx rfl (hb hby d9_82) rfl (l' := #[.val (.ref a1), .val (.int p2), .val (.int p3), .val (.int p4), .val (.int ((own_hash p2 p3 p4 (0 : Int32)) &&& (63 : Int32))), .val (.int (ns.getD (4 * x5.toInt.toNat + 3) 0)), .unset]) rfl ?_
              refine XS.goto X113.here hx rfl (pc0 := 84) (pc' := 33) rfl (hb hby d9_84) (by decide) (by decide) ?_
              exact k
            exact ih ((ns.getD (4 * x5.toInt.toNat + 3) 0)) T113 _ (own_chain_mu qI q2 qxl hmu) (own_chain_in qI q2 qxl) X113 e113 N103 
    exact loop17 _ ((bs.getD (((own_hash p2 p3 p4 (0 : Int32)) &&& (63 : Int32)).toNatClampNeg) 0)) T15 _ (Nat.lt_succ_self _) (own_bk_in qI _) X15 e15 N12 
def Qrm8_0 (Z : State) (a1 : Addr) (h0 : Heap) (n0 : Nat) (v : Option Value) (h : Heap) (L : List Loc) : Prop := v = none ∧ Fr n0 L ∧ h = h0
theorem efrm8_0 (m : MethodId) (x0 : Addr) : entryFrame m #[(.ref x0), (.int (0 : Int32))] 2 = mkF m 0 #[.val (.ref x0), .val (.int (0 : Int32))] [] := by first | (simp [entryFrame, mkF, argsToLocals, Value.category]; done) | rfl
set_option maxRecDepth 65536 in
set_option maxHeartbeats 40000000 in
theorem rm8_0 (l : Launch) (Z : State) (a0 : Array Value) (hw : ∀ d ∈ tables_1, d.before a0 Z = true) (ws : List Jvm.Cond) (a1 : Addr) (h0 : Heap) (n0 : Nat) (Z0 : n0 ≤ h0.size) (P0 : Fld Z h0 a1 OB "variableCount" "I" (.int (3 : Int32))) :
    MetFree l (⟨OB, "checkVariable", "(I)V"⟩ : MethodName) (head1 (Jvm.Cond.code (⟨OB, "checkVariable", "(I)V"⟩ : MethodName) prog_103_method_17_code 2 none :: ws) ({ frames := 0, cells := 0, slots := 0, locals := 0 } : Room)) (fun a U => a = #[(.ref a1), (.int (0 : Int32))] ∧ Z.Warmed39 U.vm ∧ U.heap = h0) (fun _ _ _ _ _ => True) (fun _ U o U' => ∃ v L, o = .returned v ∧ Qrm8_0 Z a1 h0 n0 v U'.heap L ∧ FrameEnd U o U' L ({ frames := 0, cells := 0, slots := 0, locals := 0 } : Room).cells ({ frames := 0, cells := 0, slots := 0, locals := 0 } : Room).slots) := by
  refine MetFree.of_bodySF (plainFor_of_name pn_0) hisR ?_
  intro p e s m args below meth c s₁ Bd hml0 hP hK
  obtain ⟨rfl, hZ, hh⟩ := hP
  have hx := Bd.exec
  have hby := Bd.bytes
  have hml : c.maxLocals = 2 := hml0
  have hown : s.vm.findClass OB = some m.cls := findClass_of_methodNamed Bd.named
  have hnm := (name_of_methodNamed Bd.named Bd.method).1
  have X0 : Stand p l e ({ frames := 0, cells := 0, slots := 0, locals := 0 } : Room) s m #[(.ref a1), (.int (0 : Int32))] below meth c s₁ [] 0 0 := Stand.of_body Bd
  have e0 : s₁.heap = h0 := by rw [← hh, Bd.state]; rfl
  have N0 := Fr.nil n0
  have K0 : Keep h0 h0 [] := Keep.refl h0 _
  refine own_go (B := s₁.setTop (mkF m 0 #[.val (.ref a1), .val (.int (0 : Int32))] [])) (fun t k => castTop (efrm8_0 m a1) k) ?_
  refine own_go (B := s₁.setTop (mkF m 6 #[.val (.ref a1), .val (.int (0 : Int32))] [(.ref a1), (.int (0 : Int32))])) (fun t k => ?_) ?_
  · refine XS.iloadN X0.here hx rfl (hb hby d8_0) rfl ?_
    refine XS.ifNo X0.here hx rfl (hb hby d8_1) rfl ((if0 _ _).trans (flt Int32.lt_irrefl).1) ?_
    refine XS.iloadN X0.here hx rfl (hb hby d8_4) rfl ?_
    refine XS.aloadN X0.here hx rfl (hb hby d8_5) rfl rfl ?_
    exact k
  obtain ⟨T116, X116, e116, st116⟩ := getF X0 hx hZ hown (host := "") (Or.inl (own_w hw 13 rfl)) Via.refl e0 P0 (g := (mkF m 6 #[.val (.ref a1), .val (.int (0 : Int32))] [(.ref a1), (.int (0 : Int32))])) rfl rfl (hb hby d8_6)
  refine own_go st116 ?_
  refine own_go (B := T116.setTop (mkF m 30 #[.val (.ref a1), .val (.int (0 : Int32))] [])) (fun t k => ?_) ?_
  · refine XS.icmpYes X116.here hx rfl (pc0 := 9) (pc' := 30) rfl (hb hby d8_9) rfl (tlt (by decide : ((0 : Int32) < (3 : Int32)))).1 (by decide) (by decide) ?_
    exact k
  obtain ⟨fs, hr, hrun, hended, hW, hsame⟩ := X116.leave (v := none) (fun _ => rfl)
  refine ⟨_, _, ?_, hrun, hended, _, _, rfl, ?_, ⟨_, rfl⟩, hW, hsame.mono (by decide) (by decide)⟩
  · show Steps p.tables e below (T116.setTop (mkF m 30 #[.val (.ref a1), .val (.int (0 : Int32))] [])) _
    exact X116.returnOut hx Bd.returns (hb hby d8_30) hr
  · show Qrm8_0 Z a1 h0 n0 _ T116.heap _
    rw [e116]
    exact ⟨rfl, N0, rfl⟩
def Qrm7_0 (Z : State) (a1 : Addr) (b1 : Addr) (b2 : Addr) (b3 : Addr) (k1 : ClassId) (k2 : ClassId) (k3 : ClassId) (ns : List Int32) (bs : List Int32) (cs : List Int32) (sz : Int32) (cp : Int64) (n : Nat) (h0 : Heap) (n0 : Nat) (v : Option Value) (h : Heap) (L : List Loc) : Prop := ∃ ns' : List Int32, ∃ bs' : List Int32, ∃ sz' : Int32, ∃ n' : Nat, ∃ r' : Int32, v = some (.int r') ∧ Fr n0 L ∧ Keep h0 h [a1, b1, b2] ∧ Exa Z h a1 OB ∧ Fld Z h a1 OB "variableCount" "I" (.int (3 : Int32)) ∧ Fld Z h a1 OB "maxComputations" "J" (.long (9223372036854775807 : Int64)) ∧ Fld Z h a1 OB "nodes" "[I" (.ref b1) ∧ Fld Z h a1 OB "buckets" "[I" (.ref b2) ∧ Fld Z h a1 OB "cacheBits" "I" (.int (10 : Int32)) ∧ Fld Z h a1 OB "cache" "[I" (.ref b3) ∧ Fld Z h a1 OB "size" "I" (.int sz') ∧ Fld Z h a1 OB "computations" "J" (.long cp) ∧ Arv Z h b1 k1 .int (256 : Int32) (own_I ns') (.int (0 : Int32)) ∧ Arv Z h b2 k2 .int (64 : Int32) (own_I bs') (.int (0 : Int32)) ∧ Arv Z h b3 k3 .int (4096 : Int32) (own_I cs) (.int (0 : Int32)) ∧ (own_NP ns cs n (0 : Int32) (0 : Int32) (1 : Int32) ns' bs' sz' n' r')
theorem efrm7_0 (m : MethodId) (x0 : Addr) : entryFrame m #[(.ref x0), (.int (0 : Int32))] 2 = mkF m 0 #[.val (.ref x0), .val (.int (0 : Int32))] [] := by first | (simp [entryFrame, mkF, argsToLocals, Value.category]; done) | rfl
set_option maxRecDepth 65536 in
set_option maxHeartbeats 40000000 in
theorem rm7_0 (l : Launch) (Z : State) (a0 : Array Value) (hw : ∀ d ∈ tables_1, d.before a0 Z = true) (ws : List Jvm.Cond) (a1 : Addr) (b1 : Addr) (b2 : Addr) (b3 : Addr) (k1 : ClassId) (k2 : ClassId) (k3 : ClassId) (ns : List Int32) (bs : List Int32) (cs : List Int32) (sz : Int32) (cp : Int64) (n : Nat) (h0 : Heap) (n0 : Nat) (Z0 : n0 ≤ h0.size) (P0 : Exa Z h0 a1 OB) (P1 : Fld Z h0 a1 OB "variableCount" "I" (.int (3 : Int32))) (P2 : Fld Z h0 a1 OB "maxComputations" "J" (.long (9223372036854775807 : Int64))) (P3 : Fld Z h0 a1 OB "nodes" "[I" (.ref b1)) (P4 : Fld Z h0 a1 OB "buckets" "[I" (.ref b2)) (P5 : Fld Z h0 a1 OB "cacheBits" "I" (.int (10 : Int32))) (P6 : Fld Z h0 a1 OB "cache" "[I" (.ref b3)) (P7 : Fld Z h0 a1 OB "size" "I" (.int sz)) (P8 : Fld Z h0 a1 OB "computations" "J" (.long cp)) (P9 : Arv Z h0 b1 k1 .int (256 : Int32) (own_I ns) (.int (0 : Int32))) (P10 : Arv Z h0 b2 k2 .int (64 : Int32) (own_I bs) (.int (0 : Int32))) (P11 : Arv Z h0 b3 k3 .int (4096 : Int32) (own_I cs) (.int (0 : Int32))) (g_a1 : n0 ≤ a1) (g_b1 : n0 ≤ b1) (g_b2 : n0 ≤ b2) (ne_a1_b1 : a1 ≠ b1) (ne_a1_b2 : a1 ≠ b2) (ne_a1_b3 : a1 ≠ b3) (ne_b1_b2 : b1 ≠ b2) (ne_b1_b3 : b1 ≠ b3) (ne_b2_b3 : b2 ≠ b3) (qI : own_Inv ns bs cs n) (qs : sz.toInt = (n : Int)) (qn : n < 64) :
    MetFree l (⟨OB, "variable", "(I)I"⟩ : MethodName) (head1 (Jvm.Cond.code (⟨OB, "variable", "(I)I"⟩ : MethodName) prog_103_method_3_code 2 (some .int) :: ws) ({ frames := 2, cells := 0, slots := 0, locals := 34 } : Room)) (fun a U => a = #[(.ref a1), (.int (0 : Int32))] ∧ Z.Warmed39 U.vm ∧ U.heap = h0) (fun _ _ _ _ _ => True) (fun _ U o U' => ∃ v L, o = .returned v ∧ Qrm7_0 Z a1 b1 b2 b3 k1 k2 k3 ns bs cs sz cp n h0 n0 v U'.heap L ∧ FrameEnd U o U' L ({ frames := 2, cells := 0, slots := 0, locals := 34 } : Room).cells ({ frames := 2, cells := 0, slots := 0, locals := 34 } : Room).slots) := by
  refine MetFree.of_bodySF (plainFor_of_name pn_0) hisR ?_
  intro p e s m args below meth c s₁ Bd hml0 hP hK
  obtain ⟨rfl, hZ, hh⟩ := hP
  have hx := Bd.exec
  have hby := Bd.bytes
  have hml : c.maxLocals = 2 := hml0
  have hown : s.vm.findClass OB = some m.cls := findClass_of_methodNamed Bd.named
  have hnm := (name_of_methodNamed Bd.named Bd.method).1
  have X0 : Stand p l e ({ frames := 2, cells := 0, slots := 0, locals := 34 } : Room) s m #[(.ref a1), (.int (0 : Int32))] below meth c s₁ [] 0 0 := Stand.of_body Bd
  have e0 : s₁.heap = h0 := by rw [← hh, Bd.state]; rfl
  have N0 := Fr.nil n0
  have K0 : Keep h0 h0 [a1, b1, b2] := Keep.refl h0 _
  refine own_go (B := s₁.setTop (mkF m 0 #[.val (.ref a1), .val (.int (0 : Int32))] [])) (fun t k => castTop (efrm7_0 m a1) k) ?_
  refine own_go (B := s₁.setTop (mkF m 2 #[.val (.ref a1), .val (.int (0 : Int32))] [(.int (0 : Int32)), (.ref a1)])) (fun t k => ?_) ?_
  · refine XS.aloadN X0.here hx rfl (hb hby d7_0) rfl rfl ?_
    refine XS.iloadN X0.here hx rfl (hb hby d7_1) rfl ?_
    exact k
  obtain ⟨cq118, q118, q118'⟩ := P0.cell
  obtain ⟨_, _, ⟨T118, L118, k118, n118⟩, -, X118, ⟨Lc118, hQ118, l118, y118, z118⟩, st118⟩ := X0.privateBack hx (y := (⟨OB, "checkVariable", "(I)V"⟩ : MethodName)) hown (mvT hZ (own_w hw 52 rfl)) (mvT hZ (own_w hw 53 rfl)) (own_selp (mvT hZ (own_w hw 50 rfl)) rfl (Cond.privateMethod_at (mvP hZ (own_w hw 54 rfl) (args := #[]))) (mvT hZ (own_w hw 53 rfl)) (by decide)) (Cond.privateMethod_at (mvP hZ (own_w hw 54 rfl) (args := #[]))) (mvT hZ (own_w hw 55 rfl)) (by decide) (backOf (W := 0) (rm8_0 l Z a0 hw [] a1 h0 n0 Z0 P1) hZ (own_w hw 55 rfl) (own_w hw 5 rfl) (by decide) (by decide)) (g := (mkF m 2 #[.val (.ref a1), .val (.int (0 : Int32))] [(.int (0 : Int32)), (.ref a1)])) rfl (by rw [hml]; rfl) (Steps.refl _) (a := a1) (by rw [e0]; exact q118) q118' (argsL := [(.int (0 : Int32))]) (rest := []) (lenOf pd_3 rfl) rfl (by show 2 * 0 + _ ≤ _; exact Nat.le_of_eq rfl) (hb hby d7_2) (fun _ _ => ⟨rfl, e0, (by decide : 0 + 0 ≤ _), (by decide : 0 + 0 ≤ _)⟩)
  dsimp only [Pt.U, Pt.locs, Pt.cells, Pt.slots] at X118 l118 y118 z118 st118 hQ118
  subst l118 y118 z118
  obtain ⟨rfl, Nq118, e118⟩ := hQ118
  have N118 := Fr.app N0 Nq118
  refine own_go (B := T118.setTop (mkF m 5 #[.val (.ref a1), .val (.int (0 : Int32))] [])) (fun t k => st118.trans k) ?_
  refine own_go (B := T118.setTop (mkF m 9 #[.val (.ref a1), .val (.int (0 : Int32))] [(.int (1 : Int32)), (.int (0 : Int32)), (.int (0 : Int32)), (.ref a1)])) (fun t k => ?_) ?_
  · refine XS.aloadN X118.here hx rfl (hb hby d7_5) rfl rfl ?_
    refine XS.iloadN X118.here hx rfl (hb hby d7_6) rfl ?_
    refine XS.iconst X118.here hx rfl (hb hby d7_7) ?_
    refine XS.iconst X118.here hx rfl (hb hby d7_8) ?_
    exact k
  obtain ⟨cq119, q119, q119'⟩ := P0.cell
  obtain ⟨_, _, ⟨T119, L119, k119, n119⟩, -, X119, ⟨Lc119, hQ119, l119, y119, z119⟩, st119⟩ := X118.privateBack hx (y := (⟨OB, "node", "(III)I"⟩ : MethodName)) hown (mvT hZ (own_w hw 56 rfl)) (mvT hZ (own_w hw 57 rfl)) (own_selp (mvT hZ (own_w hw 50 rfl)) rfl (Cond.privateMethod_at (mvP hZ (own_w hw 58 rfl) (args := #[]))) (mvT hZ (own_w hw 57 rfl)) (by decide)) (Cond.privateMethod_at (mvP hZ (own_w hw 58 rfl) (args := #[]))) (mvT hZ (own_w hw 59 rfl)) (by decide) (backOf (W := 0) (rm9 l Z a0 hw [] a1 (0 : Int32) (0 : Int32) (1 : Int32) b1 b2 b3 k1 k2 k3 ns bs cs sz cp n h0 n0 Z0 P0 P1 P2 P3 P4 P5 P6 P7 P8 P9 P10 P11 g_a1 g_b1 g_b2 ne_a1_b1 ne_a1_b2 ne_a1_b3 ne_b1_b2 ne_b1_b3 ne_b2_b3 qI qs qn (by decide) ⟨by decide, by have := qI.1.2.1; show (0 : Int) < n; omega⟩ ⟨by decide, by have := qI.1.2.1; show (1 : Int) < n; omega⟩ (by show (0 : Int) < own_vr ns 0; rw [qI.1.2.2.2.1]; decide) (by show (0 : Int) < own_vr ns 1; rw [qI.1.2.2.2.2.1]; decide)) hZ (own_w hw 59 rfl) (own_w hw 5 rfl) (by decide) (by decide)) (g := (mkF m 9 #[.val (.ref a1), .val (.int (0 : Int32))] [(.int (1 : Int32)), (.int (0 : Int32)), (.int (0 : Int32)), (.ref a1)])) rfl (by rw [hml]; rfl) (Steps.refl _) (a := a1) (by rw [e118]; exact q119) q119' (argsL := [(.int (0 : Int32)), (.int (0 : Int32)), (.int (1 : Int32))]) (rest := []) (lenOf pd_4 rfl) rfl (by show 2 * 0 + _ ≤ _; exact Nat.le_of_eq rfl) (hb hby d7_9) (fun _ _ => ⟨rfl, e118, (by decide : 0 + 0 ≤ _), (by decide : 0 + 0 ≤ _)⟩)
  dsimp only [Pt.U, Pt.locs, Pt.cells, Pt.slots] at X119 l119 y119 z119 st119 hQ119
  subst l119 y119 z119
  obtain ⟨ns'_119, bs'_119, sz'_119, n'_119, r'_119, rfl, Nq119, Kq119, U119_0, U119_1, U119_2, U119_3, U119_4, U119_5, U119_6, U119_7, U119_8, U119_9, U119_10, U119_11, Pq119_0⟩ := hQ119
  have Q120 : Exa Z T119.heap a1 OB := P0.keep Kq119
  have Q121 : Arv Z T119.heap b3 k3 .int (4096 : Int32) (own_I cs) (.int (0 : Int32)) := P11.keep Kq119 (ninS (Ne.symm ne_a1_b3) (ninS (Ne.symm ne_b1_b3) (ninS (Ne.symm ne_b2_b3) nin0)))
  have Z119 : n0 ≤ T119.heap.size := Nat.le_trans Z0 Kq119.1
  have K119 : Keep h0 T119.heap [a1, b1, b2] := K0.trans Kq119 (allS (Or.inl (List.mem_of_getElem? (i := 0) rfl)) (allS (Or.inl (List.mem_of_getElem? (i := 1) rfl)) (allS (Or.inl (List.mem_of_getElem? (i := 2) rfl)) all0)))
  have N119 := Fr.app N118 Nq119
  refine own_go (B := T119.setTop (mkF m 12 #[.val (.ref a1), .val (.int (0 : Int32))] [(.int r'_119)])) (fun t k => st119.trans k) ?_
  obtain ⟨fs, hr, hrun, hended, hW, hsame⟩ := X119.leave (v := some (.int r'_119)) (fun h => by rw [Bd.returns] at h; cases h)
  refine ⟨_, _, ?_, hrun, hended, _, _, rfl, ?_, ⟨_, rfl⟩, hW, hsame.mono (by decide) (by decide)⟩
  · show Steps p.tables e below (T119.setTop (mkF m 12 #[.val (.ref a1), .val (.int (0 : Int32))] [(.int r'_119)])) _
    exact retOut X119 hx Bd.returns rfl (Or.inl ⟨rfl, Or.inl rfl, _, rfl⟩) (hb hby d7_12) hr
  · show Qrm7_0 Z a1 b1 b2 b3 k1 k2 k3 ns bs cs sz cp n h0 n0 _ T119.heap _
    skip
    exact ⟨ns'_119, bs'_119, sz'_119, n'_119, r'_119, rfl, N119, K119, U119_0, U119_1, U119_2, U119_3, U119_4, U119_5, U119_6, U119_7, U119_8, U119_9, U119_10, U119_11, Pq119_0⟩
def Qrm8_1 (Z : State) (a1 : Addr) (h0 : Heap) (n0 : Nat) (v : Option Value) (h : Heap) (L : List Loc) : Prop := v = none ∧ Fr n0 L ∧ h = h0
theorem efrm8_1 (m : MethodId) (x0 : Addr) : entryFrame m #[(.ref x0), (.int (1 : Int32))] 2 = mkF m 0 #[.val (.ref x0), .val (.int (1 : Int32))] [] := by first | (simp [entryFrame, mkF, argsToLocals, Value.category]; done) | rfl
set_option maxRecDepth 65536 in
set_option maxHeartbeats 40000000 in
theorem rm8_1 (l : Launch) (Z : State) (a0 : Array Value) (hw : ∀ d ∈ tables_1, d.before a0 Z = true) (ws : List Jvm.Cond) (a1 : Addr) (h0 : Heap) (n0 : Nat) (Z0 : n0 ≤ h0.size) (P0 : Fld Z h0 a1 OB "variableCount" "I" (.int (3 : Int32))) :
    MetFree l (⟨OB, "checkVariable", "(I)V"⟩ : MethodName) (head1 (Jvm.Cond.code (⟨OB, "checkVariable", "(I)V"⟩ : MethodName) prog_103_method_17_code 2 none :: ws) ({ frames := 0, cells := 0, slots := 0, locals := 0 } : Room)) (fun a U => a = #[(.ref a1), (.int (1 : Int32))] ∧ Z.Warmed39 U.vm ∧ U.heap = h0) (fun _ _ _ _ _ => True) (fun _ U o U' => ∃ v L, o = .returned v ∧ Qrm8_1 Z a1 h0 n0 v U'.heap L ∧ FrameEnd U o U' L ({ frames := 0, cells := 0, slots := 0, locals := 0 } : Room).cells ({ frames := 0, cells := 0, slots := 0, locals := 0 } : Room).slots) := by
  refine MetFree.of_bodySF (plainFor_of_name pn_0) hisR ?_
  intro p e s m args below meth c s₁ Bd hml0 hP hK
  obtain ⟨rfl, hZ, hh⟩ := hP
  have hx := Bd.exec
  have hby := Bd.bytes
  have hml : c.maxLocals = 2 := hml0
  have hown : s.vm.findClass OB = some m.cls := findClass_of_methodNamed Bd.named
  have hnm := (name_of_methodNamed Bd.named Bd.method).1
  have X0 : Stand p l e ({ frames := 0, cells := 0, slots := 0, locals := 0 } : Room) s m #[(.ref a1), (.int (1 : Int32))] below meth c s₁ [] 0 0 := Stand.of_body Bd
  have e0 : s₁.heap = h0 := by rw [← hh, Bd.state]; rfl
  have N0 := Fr.nil n0
  have K0 : Keep h0 h0 [] := Keep.refl h0 _
  refine own_go (B := s₁.setTop (mkF m 0 #[.val (.ref a1), .val (.int (1 : Int32))] [])) (fun t k => castTop (efrm8_1 m a1) k) ?_
  refine own_go (B := s₁.setTop (mkF m 6 #[.val (.ref a1), .val (.int (1 : Int32))] [(.ref a1), (.int (1 : Int32))])) (fun t k => ?_) ?_
  · refine XS.iloadN X0.here hx rfl (hb hby d8_0) rfl ?_
    refine XS.ifNo X0.here hx rfl (hb hby d8_1) rfl ((if0 _ _).trans (flt (by decide : ¬ ((1 : Int32) < (0 : Int32)))).1) ?_
    refine XS.iloadN X0.here hx rfl (hb hby d8_4) rfl ?_
    refine XS.aloadN X0.here hx rfl (hb hby d8_5) rfl rfl ?_
    exact k
  obtain ⟨T123, X123, e123, st123⟩ := getF X0 hx hZ hown (host := "") (Or.inl (own_w hw 13 rfl)) Via.refl e0 P0 (g := (mkF m 6 #[.val (.ref a1), .val (.int (1 : Int32))] [(.ref a1), (.int (1 : Int32))])) rfl rfl (hb hby d8_6)
  refine own_go st123 ?_
  refine own_go (B := T123.setTop (mkF m 30 #[.val (.ref a1), .val (.int (1 : Int32))] [])) (fun t k => ?_) ?_
  · refine XS.icmpYes X123.here hx rfl (pc0 := 9) (pc' := 30) rfl (hb hby d8_9) rfl (tlt (by decide : ((1 : Int32) < (3 : Int32)))).1 (by decide) (by decide) ?_
    exact k
  obtain ⟨fs, hr, hrun, hended, hW, hsame⟩ := X123.leave (v := none) (fun _ => rfl)
  refine ⟨_, _, ?_, hrun, hended, _, _, rfl, ?_, ⟨_, rfl⟩, hW, hsame.mono (by decide) (by decide)⟩
  · show Steps p.tables e below (T123.setTop (mkF m 30 #[.val (.ref a1), .val (.int (1 : Int32))] [])) _
    exact X123.returnOut hx Bd.returns (hb hby d8_30) hr
  · show Qrm8_1 Z a1 h0 n0 _ T123.heap _
    rw [e123]
    exact ⟨rfl, N0, rfl⟩
def Qrm7_1 (Z : State) (a1 : Addr) (b1 : Addr) (b2 : Addr) (b3 : Addr) (k1 : ClassId) (k2 : ClassId) (k3 : ClassId) (ns : List Int32) (bs : List Int32) (cs : List Int32) (sz : Int32) (cp : Int64) (n : Nat) (h0 : Heap) (n0 : Nat) (v : Option Value) (h : Heap) (L : List Loc) : Prop := ∃ ns' : List Int32, ∃ bs' : List Int32, ∃ sz' : Int32, ∃ n' : Nat, ∃ r' : Int32, v = some (.int r') ∧ Fr n0 L ∧ Keep h0 h [a1, b1, b2] ∧ Exa Z h a1 OB ∧ Fld Z h a1 OB "variableCount" "I" (.int (3 : Int32)) ∧ Fld Z h a1 OB "maxComputations" "J" (.long (9223372036854775807 : Int64)) ∧ Fld Z h a1 OB "nodes" "[I" (.ref b1) ∧ Fld Z h a1 OB "buckets" "[I" (.ref b2) ∧ Fld Z h a1 OB "cacheBits" "I" (.int (10 : Int32)) ∧ Fld Z h a1 OB "cache" "[I" (.ref b3) ∧ Fld Z h a1 OB "size" "I" (.int sz') ∧ Fld Z h a1 OB "computations" "J" (.long cp) ∧ Arv Z h b1 k1 .int (256 : Int32) (own_I ns') (.int (0 : Int32)) ∧ Arv Z h b2 k2 .int (64 : Int32) (own_I bs') (.int (0 : Int32)) ∧ Arv Z h b3 k3 .int (4096 : Int32) (own_I cs) (.int (0 : Int32)) ∧ (own_NP ns cs n (1 : Int32) (0 : Int32) (1 : Int32) ns' bs' sz' n' r')
theorem efrm7_1 (m : MethodId) (x0 : Addr) : entryFrame m #[(.ref x0), (.int (1 : Int32))] 2 = mkF m 0 #[.val (.ref x0), .val (.int (1 : Int32))] [] := by first | (simp [entryFrame, mkF, argsToLocals, Value.category]; done) | rfl
set_option maxRecDepth 65536 in
set_option maxHeartbeats 40000000 in
theorem rm7_1 (l : Launch) (Z : State) (a0 : Array Value) (hw : ∀ d ∈ tables_1, d.before a0 Z = true) (ws : List Jvm.Cond) (a1 : Addr) (b1 : Addr) (b2 : Addr) (b3 : Addr) (k1 : ClassId) (k2 : ClassId) (k3 : ClassId) (ns : List Int32) (bs : List Int32) (cs : List Int32) (sz : Int32) (cp : Int64) (n : Nat) (h0 : Heap) (n0 : Nat) (Z0 : n0 ≤ h0.size) (P0 : Exa Z h0 a1 OB) (P1 : Fld Z h0 a1 OB "variableCount" "I" (.int (3 : Int32))) (P2 : Fld Z h0 a1 OB "maxComputations" "J" (.long (9223372036854775807 : Int64))) (P3 : Fld Z h0 a1 OB "nodes" "[I" (.ref b1)) (P4 : Fld Z h0 a1 OB "buckets" "[I" (.ref b2)) (P5 : Fld Z h0 a1 OB "cacheBits" "I" (.int (10 : Int32))) (P6 : Fld Z h0 a1 OB "cache" "[I" (.ref b3)) (P7 : Fld Z h0 a1 OB "size" "I" (.int sz)) (P8 : Fld Z h0 a1 OB "computations" "J" (.long cp)) (P9 : Arv Z h0 b1 k1 .int (256 : Int32) (own_I ns) (.int (0 : Int32))) (P10 : Arv Z h0 b2 k2 .int (64 : Int32) (own_I bs) (.int (0 : Int32))) (P11 : Arv Z h0 b3 k3 .int (4096 : Int32) (own_I cs) (.int (0 : Int32))) (g_a1 : n0 ≤ a1) (g_b1 : n0 ≤ b1) (g_b2 : n0 ≤ b2) (ne_a1_b1 : a1 ≠ b1) (ne_a1_b2 : a1 ≠ b2) (ne_a1_b3 : a1 ≠ b3) (ne_b1_b2 : b1 ≠ b2) (ne_b1_b3 : b1 ≠ b3) (ne_b2_b3 : b2 ≠ b3) (qI : own_Inv ns bs cs n) (qs : sz.toInt = (n : Int)) (qn : n < 64) :
    MetFree l (⟨OB, "variable", "(I)I"⟩ : MethodName) (head1 (Jvm.Cond.code (⟨OB, "variable", "(I)I"⟩ : MethodName) prog_103_method_3_code 2 (some .int) :: ws) ({ frames := 2, cells := 0, slots := 0, locals := 34 } : Room)) (fun a U => a = #[(.ref a1), (.int (1 : Int32))] ∧ Z.Warmed39 U.vm ∧ U.heap = h0) (fun _ _ _ _ _ => True) (fun _ U o U' => ∃ v L, o = .returned v ∧ Qrm7_1 Z a1 b1 b2 b3 k1 k2 k3 ns bs cs sz cp n h0 n0 v U'.heap L ∧ FrameEnd U o U' L ({ frames := 2, cells := 0, slots := 0, locals := 34 } : Room).cells ({ frames := 2, cells := 0, slots := 0, locals := 34 } : Room).slots) := by
  refine MetFree.of_bodySF (plainFor_of_name pn_0) hisR ?_
  intro p e s m args below meth c s₁ Bd hml0 hP hK
  obtain ⟨rfl, hZ, hh⟩ := hP
  have hx := Bd.exec
  have hby := Bd.bytes
  have hml : c.maxLocals = 2 := hml0
  have hown : s.vm.findClass OB = some m.cls := findClass_of_methodNamed Bd.named
  have hnm := (name_of_methodNamed Bd.named Bd.method).1
  have X0 : Stand p l e ({ frames := 2, cells := 0, slots := 0, locals := 34 } : Room) s m #[(.ref a1), (.int (1 : Int32))] below meth c s₁ [] 0 0 := Stand.of_body Bd
  have e0 : s₁.heap = h0 := by rw [← hh, Bd.state]; rfl
  have N0 := Fr.nil n0
  have K0 : Keep h0 h0 [a1, b1, b2] := Keep.refl h0 _
  refine own_go (B := s₁.setTop (mkF m 0 #[.val (.ref a1), .val (.int (1 : Int32))] [])) (fun t k => castTop (efrm7_1 m a1) k) ?_
  refine own_go (B := s₁.setTop (mkF m 2 #[.val (.ref a1), .val (.int (1 : Int32))] [(.int (1 : Int32)), (.ref a1)])) (fun t k => ?_) ?_
  · refine XS.aloadN X0.here hx rfl (hb hby d7_0) rfl rfl ?_
    refine XS.iloadN X0.here hx rfl (hb hby d7_1) rfl ?_
    exact k
  obtain ⟨cq125, q125, q125'⟩ := P0.cell
  obtain ⟨_, _, ⟨T125, L125, k125, n125⟩, -, X125, ⟨Lc125, hQ125, l125, y125, z125⟩, st125⟩ := X0.privateBack hx (y := (⟨OB, "checkVariable", "(I)V"⟩ : MethodName)) hown (mvT hZ (own_w hw 52 rfl)) (mvT hZ (own_w hw 53 rfl)) (own_selp (mvT hZ (own_w hw 50 rfl)) rfl (Cond.privateMethod_at (mvP hZ (own_w hw 54 rfl) (args := #[]))) (mvT hZ (own_w hw 53 rfl)) (by decide)) (Cond.privateMethod_at (mvP hZ (own_w hw 54 rfl) (args := #[]))) (mvT hZ (own_w hw 55 rfl)) (by decide) (backOf (W := 0) (rm8_1 l Z a0 hw [] a1 h0 n0 Z0 P1) hZ (own_w hw 55 rfl) (own_w hw 5 rfl) (by decide) (by decide)) (g := (mkF m 2 #[.val (.ref a1), .val (.int (1 : Int32))] [(.int (1 : Int32)), (.ref a1)])) rfl (by rw [hml]; rfl) (Steps.refl _) (a := a1) (by rw [e0]; exact q125) q125' (argsL := [(.int (1 : Int32))]) (rest := []) (lenOf pd_3 rfl) rfl (by show 2 * 0 + _ ≤ _; exact Nat.le_of_eq rfl) (hb hby d7_2) (fun _ _ => ⟨rfl, e0, (by decide : 0 + 0 ≤ _), (by decide : 0 + 0 ≤ _)⟩)
  dsimp only [Pt.U, Pt.locs, Pt.cells, Pt.slots] at X125 l125 y125 z125 st125 hQ125
  subst l125 y125 z125
  obtain ⟨rfl, Nq125, e125⟩ := hQ125
  have N125 := Fr.app N0 Nq125
  refine own_go (B := T125.setTop (mkF m 5 #[.val (.ref a1), .val (.int (1 : Int32))] [])) (fun t k => st125.trans k) ?_
  refine own_go (B := T125.setTop (mkF m 9 #[.val (.ref a1), .val (.int (1 : Int32))] [(.int (1 : Int32)), (.int (0 : Int32)), (.int (1 : Int32)), (.ref a1)])) (fun t k => ?_) ?_
  · refine XS.aloadN X125.here hx rfl (hb hby d7_5) rfl rfl ?_
    refine XS.iloadN X125.here hx rfl (hb hby d7_6) rfl ?_
    refine XS.iconst X125.here hx rfl (hb hby d7_7) ?_
    refine XS.iconst X125.here hx rfl (hb hby d7_8) ?_
    exact k
  obtain ⟨cq126, q126, q126'⟩ := P0.cell
  obtain ⟨_, _, ⟨T126, L126, k126, n126⟩, -, X126, ⟨Lc126, hQ126, l126, y126, z126⟩, st126⟩ := X125.privateBack hx (y := (⟨OB, "node", "(III)I"⟩ : MethodName)) hown (mvT hZ (own_w hw 56 rfl)) (mvT hZ (own_w hw 57 rfl)) (own_selp (mvT hZ (own_w hw 50 rfl)) rfl (Cond.privateMethod_at (mvP hZ (own_w hw 58 rfl) (args := #[]))) (mvT hZ (own_w hw 57 rfl)) (by decide)) (Cond.privateMethod_at (mvP hZ (own_w hw 58 rfl) (args := #[]))) (mvT hZ (own_w hw 59 rfl)) (by decide) (backOf (W := 0) (rm9 l Z a0 hw [] a1 (1 : Int32) (0 : Int32) (1 : Int32) b1 b2 b3 k1 k2 k3 ns bs cs sz cp n h0 n0 Z0 P0 P1 P2 P3 P4 P5 P6 P7 P8 P9 P10 P11 g_a1 g_b1 g_b2 ne_a1_b1 ne_a1_b2 ne_a1_b3 ne_b1_b2 ne_b1_b3 ne_b2_b3 qI qs qn (by decide) ⟨by decide, by have := qI.1.2.1; show (0 : Int) < n; omega⟩ ⟨by decide, by have := qI.1.2.1; show (1 : Int) < n; omega⟩ (by show (1 : Int) < own_vr ns 0; rw [qI.1.2.2.2.1]; decide) (by show (1 : Int) < own_vr ns 1; rw [qI.1.2.2.2.2.1]; decide)) hZ (own_w hw 59 rfl) (own_w hw 5 rfl) (by decide) (by decide)) (g := (mkF m 9 #[.val (.ref a1), .val (.int (1 : Int32))] [(.int (1 : Int32)), (.int (0 : Int32)), (.int (1 : Int32)), (.ref a1)])) rfl (by rw [hml]; rfl) (Steps.refl _) (a := a1) (by rw [e125]; exact q126) q126' (argsL := [(.int (1 : Int32)), (.int (0 : Int32)), (.int (1 : Int32))]) (rest := []) (lenOf pd_4 rfl) rfl (by show 2 * 0 + _ ≤ _; exact Nat.le_of_eq rfl) (hb hby d7_9) (fun _ _ => ⟨rfl, e125, (by decide : 0 + 0 ≤ _), (by decide : 0 + 0 ≤ _)⟩)
  dsimp only [Pt.U, Pt.locs, Pt.cells, Pt.slots] at X126 l126 y126 z126 st126 hQ126
  subst l126 y126 z126
  obtain ⟨ns'_126, bs'_126, sz'_126, n'_126, r'_126, rfl, Nq126, Kq126, U126_0, U126_1, U126_2, U126_3, U126_4, U126_5, U126_6, U126_7, U126_8, U126_9, U126_10, U126_11, Pq126_0⟩ := hQ126
  have Q127 : Exa Z T126.heap a1 OB := P0.keep Kq126
  have Q128 : Arv Z T126.heap b3 k3 .int (4096 : Int32) (own_I cs) (.int (0 : Int32)) := P11.keep Kq126 (ninS (Ne.symm ne_a1_b3) (ninS (Ne.symm ne_b1_b3) (ninS (Ne.symm ne_b2_b3) nin0)))
  have Z126 : n0 ≤ T126.heap.size := Nat.le_trans Z0 Kq126.1
  have K126 : Keep h0 T126.heap [a1, b1, b2] := K0.trans Kq126 (allS (Or.inl (List.mem_of_getElem? (i := 0) rfl)) (allS (Or.inl (List.mem_of_getElem? (i := 1) rfl)) (allS (Or.inl (List.mem_of_getElem? (i := 2) rfl)) all0)))
  have N126 := Fr.app N125 Nq126
  refine own_go (B := T126.setTop (mkF m 12 #[.val (.ref a1), .val (.int (1 : Int32))] [(.int r'_126)])) (fun t k => st126.trans k) ?_
  obtain ⟨fs, hr, hrun, hended, hW, hsame⟩ := X126.leave (v := some (.int r'_126)) (fun h => by rw [Bd.returns] at h; cases h)
  refine ⟨_, _, ?_, hrun, hended, _, _, rfl, ?_, ⟨_, rfl⟩, hW, hsame.mono (by decide) (by decide)⟩
  · show Steps p.tables e below (T126.setTop (mkF m 12 #[.val (.ref a1), .val (.int (1 : Int32))] [(.int r'_126)])) _
    exact retOut X126 hx Bd.returns rfl (Or.inl ⟨rfl, Or.inl rfl, _, rfl⟩) (hb hby d7_12) hr
  · show Qrm7_1 Z a1 b1 b2 b3 k1 k2 k3 ns bs cs sz cp n h0 n0 _ T126.heap _
    skip
    exact ⟨ns'_126, bs'_126, sz'_126, n'_126, r'_126, rfl, N126, K126, U126_0, U126_1, U126_2, U126_3, U126_4, U126_5, U126_6, U126_7, U126_8, U126_9, U126_10, U126_11, Pq126_0⟩
def Qrm8_2 (Z : State) (a1 : Addr) (h0 : Heap) (n0 : Nat) (v : Option Value) (h : Heap) (L : List Loc) : Prop := v = none ∧ Fr n0 L ∧ h = h0
theorem efrm8_2 (m : MethodId) (x0 : Addr) : entryFrame m #[(.ref x0), (.int (2 : Int32))] 2 = mkF m 0 #[.val (.ref x0), .val (.int (2 : Int32))] [] := by first | (simp [entryFrame, mkF, argsToLocals, Value.category]; done) | rfl
set_option maxRecDepth 65536 in
set_option maxHeartbeats 40000000 in
theorem rm8_2 (l : Launch) (Z : State) (a0 : Array Value) (hw : ∀ d ∈ tables_1, d.before a0 Z = true) (ws : List Jvm.Cond) (a1 : Addr) (h0 : Heap) (n0 : Nat) (Z0 : n0 ≤ h0.size) (P0 : Fld Z h0 a1 OB "variableCount" "I" (.int (3 : Int32))) :
    MetFree l (⟨OB, "checkVariable", "(I)V"⟩ : MethodName) (head1 (Jvm.Cond.code (⟨OB, "checkVariable", "(I)V"⟩ : MethodName) prog_103_method_17_code 2 none :: ws) ({ frames := 0, cells := 0, slots := 0, locals := 0 } : Room)) (fun a U => a = #[(.ref a1), (.int (2 : Int32))] ∧ Z.Warmed39 U.vm ∧ U.heap = h0) (fun _ _ _ _ _ => True) (fun _ U o U' => ∃ v L, o = .returned v ∧ Qrm8_2 Z a1 h0 n0 v U'.heap L ∧ FrameEnd U o U' L ({ frames := 0, cells := 0, slots := 0, locals := 0 } : Room).cells ({ frames := 0, cells := 0, slots := 0, locals := 0 } : Room).slots) := by
  refine MetFree.of_bodySF (plainFor_of_name pn_0) hisR ?_
  intro p e s m args below meth c s₁ Bd hml0 hP hK
  obtain ⟨rfl, hZ, hh⟩ := hP
  have hx := Bd.exec
  have hby := Bd.bytes
  have hml : c.maxLocals = 2 := hml0
  have hown : s.vm.findClass OB = some m.cls := findClass_of_methodNamed Bd.named
  have hnm := (name_of_methodNamed Bd.named Bd.method).1
  have X0 : Stand p l e ({ frames := 0, cells := 0, slots := 0, locals := 0 } : Room) s m #[(.ref a1), (.int (2 : Int32))] below meth c s₁ [] 0 0 := Stand.of_body Bd
  have e0 : s₁.heap = h0 := by rw [← hh, Bd.state]; rfl
  have N0 := Fr.nil n0
  have K0 : Keep h0 h0 [] := Keep.refl h0 _
  refine own_go (B := s₁.setTop (mkF m 0 #[.val (.ref a1), .val (.int (2 : Int32))] [])) (fun t k => castTop (efrm8_2 m a1) k) ?_
  refine own_go (B := s₁.setTop (mkF m 6 #[.val (.ref a1), .val (.int (2 : Int32))] [(.ref a1), (.int (2 : Int32))])) (fun t k => ?_) ?_
  · refine XS.iloadN X0.here hx rfl (hb hby d8_0) rfl ?_
    refine XS.ifNo X0.here hx rfl (hb hby d8_1) rfl ((if0 _ _).trans (flt (by decide : ¬ ((2 : Int32) < (0 : Int32)))).1) ?_
    refine XS.iloadN X0.here hx rfl (hb hby d8_4) rfl ?_
    refine XS.aloadN X0.here hx rfl (hb hby d8_5) rfl rfl ?_
    exact k
  obtain ⟨T130, X130, e130, st130⟩ := getF X0 hx hZ hown (host := "") (Or.inl (own_w hw 13 rfl)) Via.refl e0 P0 (g := (mkF m 6 #[.val (.ref a1), .val (.int (2 : Int32))] [(.ref a1), (.int (2 : Int32))])) rfl rfl (hb hby d8_6)
  refine own_go st130 ?_
  refine own_go (B := T130.setTop (mkF m 30 #[.val (.ref a1), .val (.int (2 : Int32))] [])) (fun t k => ?_) ?_
  · refine XS.icmpYes X130.here hx rfl (pc0 := 9) (pc' := 30) rfl (hb hby d8_9) rfl (tlt (by decide : ((2 : Int32) < (3 : Int32)))).1 (by decide) (by decide) ?_
    exact k
  obtain ⟨fs, hr, hrun, hended, hW, hsame⟩ := X130.leave (v := none) (fun _ => rfl)
  refine ⟨_, _, ?_, hrun, hended, _, _, rfl, ?_, ⟨_, rfl⟩, hW, hsame.mono (by decide) (by decide)⟩
  · show Steps p.tables e below (T130.setTop (mkF m 30 #[.val (.ref a1), .val (.int (2 : Int32))] [])) _
    exact X130.returnOut hx Bd.returns (hb hby d8_30) hr
  · show Qrm8_2 Z a1 h0 n0 _ T130.heap _
    rw [e130]
    exact ⟨rfl, N0, rfl⟩
def Qrm7_2 (Z : State) (a1 : Addr) (b1 : Addr) (b2 : Addr) (b3 : Addr) (k1 : ClassId) (k2 : ClassId) (k3 : ClassId) (ns : List Int32) (bs : List Int32) (cs : List Int32) (sz : Int32) (cp : Int64) (n : Nat) (h0 : Heap) (n0 : Nat) (v : Option Value) (h : Heap) (L : List Loc) : Prop := ∃ ns' : List Int32, ∃ bs' : List Int32, ∃ sz' : Int32, ∃ n' : Nat, ∃ r' : Int32, v = some (.int r') ∧ Fr n0 L ∧ Keep h0 h [a1, b1, b2] ∧ Exa Z h a1 OB ∧ Fld Z h a1 OB "variableCount" "I" (.int (3 : Int32)) ∧ Fld Z h a1 OB "maxComputations" "J" (.long (9223372036854775807 : Int64)) ∧ Fld Z h a1 OB "nodes" "[I" (.ref b1) ∧ Fld Z h a1 OB "buckets" "[I" (.ref b2) ∧ Fld Z h a1 OB "cacheBits" "I" (.int (10 : Int32)) ∧ Fld Z h a1 OB "cache" "[I" (.ref b3) ∧ Fld Z h a1 OB "size" "I" (.int sz') ∧ Fld Z h a1 OB "computations" "J" (.long cp) ∧ Arv Z h b1 k1 .int (256 : Int32) (own_I ns') (.int (0 : Int32)) ∧ Arv Z h b2 k2 .int (64 : Int32) (own_I bs') (.int (0 : Int32)) ∧ Arv Z h b3 k3 .int (4096 : Int32) (own_I cs) (.int (0 : Int32)) ∧ (own_NP ns cs n (2 : Int32) (0 : Int32) (1 : Int32) ns' bs' sz' n' r')
theorem efrm7_2 (m : MethodId) (x0 : Addr) : entryFrame m #[(.ref x0), (.int (2 : Int32))] 2 = mkF m 0 #[.val (.ref x0), .val (.int (2 : Int32))] [] := by first | (simp [entryFrame, mkF, argsToLocals, Value.category]; done) | rfl
set_option maxRecDepth 65536 in
set_option maxHeartbeats 40000000 in
theorem rm7_2 (l : Launch) (Z : State) (a0 : Array Value) (hw : ∀ d ∈ tables_1, d.before a0 Z = true) (ws : List Jvm.Cond) (a1 : Addr) (b1 : Addr) (b2 : Addr) (b3 : Addr) (k1 : ClassId) (k2 : ClassId) (k3 : ClassId) (ns : List Int32) (bs : List Int32) (cs : List Int32) (sz : Int32) (cp : Int64) (n : Nat) (h0 : Heap) (n0 : Nat) (Z0 : n0 ≤ h0.size) (P0 : Exa Z h0 a1 OB) (P1 : Fld Z h0 a1 OB "variableCount" "I" (.int (3 : Int32))) (P2 : Fld Z h0 a1 OB "maxComputations" "J" (.long (9223372036854775807 : Int64))) (P3 : Fld Z h0 a1 OB "nodes" "[I" (.ref b1)) (P4 : Fld Z h0 a1 OB "buckets" "[I" (.ref b2)) (P5 : Fld Z h0 a1 OB "cacheBits" "I" (.int (10 : Int32))) (P6 : Fld Z h0 a1 OB "cache" "[I" (.ref b3)) (P7 : Fld Z h0 a1 OB "size" "I" (.int sz)) (P8 : Fld Z h0 a1 OB "computations" "J" (.long cp)) (P9 : Arv Z h0 b1 k1 .int (256 : Int32) (own_I ns) (.int (0 : Int32))) (P10 : Arv Z h0 b2 k2 .int (64 : Int32) (own_I bs) (.int (0 : Int32))) (P11 : Arv Z h0 b3 k3 .int (4096 : Int32) (own_I cs) (.int (0 : Int32))) (g_a1 : n0 ≤ a1) (g_b1 : n0 ≤ b1) (g_b2 : n0 ≤ b2) (ne_a1_b1 : a1 ≠ b1) (ne_a1_b2 : a1 ≠ b2) (ne_a1_b3 : a1 ≠ b3) (ne_b1_b2 : b1 ≠ b2) (ne_b1_b3 : b1 ≠ b3) (ne_b2_b3 : b2 ≠ b3) (qI : own_Inv ns bs cs n) (qs : sz.toInt = (n : Int)) (qn : n < 64) :
    MetFree l (⟨OB, "variable", "(I)I"⟩ : MethodName) (head1 (Jvm.Cond.code (⟨OB, "variable", "(I)I"⟩ : MethodName) prog_103_method_3_code 2 (some .int) :: ws) ({ frames := 2, cells := 0, slots := 0, locals := 34 } : Room)) (fun a U => a = #[(.ref a1), (.int (2 : Int32))] ∧ Z.Warmed39 U.vm ∧ U.heap = h0) (fun _ _ _ _ _ => True) (fun _ U o U' => ∃ v L, o = .returned v ∧ Qrm7_2 Z a1 b1 b2 b3 k1 k2 k3 ns bs cs sz cp n h0 n0 v U'.heap L ∧ FrameEnd U o U' L ({ frames := 2, cells := 0, slots := 0, locals := 34 } : Room).cells ({ frames := 2, cells := 0, slots := 0, locals := 34 } : Room).slots) := by
  refine MetFree.of_bodySF (plainFor_of_name pn_0) hisR ?_
  intro p e s m args below meth c s₁ Bd hml0 hP hK
  obtain ⟨rfl, hZ, hh⟩ := hP
  have hx := Bd.exec
  have hby := Bd.bytes
  have hml : c.maxLocals = 2 := hml0
  have hown : s.vm.findClass OB = some m.cls := findClass_of_methodNamed Bd.named
  have hnm := (name_of_methodNamed Bd.named Bd.method).1
  have X0 : Stand p l e ({ frames := 2, cells := 0, slots := 0, locals := 34 } : Room) s m #[(.ref a1), (.int (2 : Int32))] below meth c s₁ [] 0 0 := Stand.of_body Bd
  have e0 : s₁.heap = h0 := by rw [← hh, Bd.state]; rfl
  have N0 := Fr.nil n0
  have K0 : Keep h0 h0 [a1, b1, b2] := Keep.refl h0 _
  refine own_go (B := s₁.setTop (mkF m 0 #[.val (.ref a1), .val (.int (2 : Int32))] [])) (fun t k => castTop (efrm7_2 m a1) k) ?_
  refine own_go (B := s₁.setTop (mkF m 2 #[.val (.ref a1), .val (.int (2 : Int32))] [(.int (2 : Int32)), (.ref a1)])) (fun t k => ?_) ?_
  · refine XS.aloadN X0.here hx rfl (hb hby d7_0) rfl rfl ?_
    refine XS.iloadN X0.here hx rfl (hb hby d7_1) rfl ?_
    exact k
  obtain ⟨cq132, q132, q132'⟩ := P0.cell
  obtain ⟨_, _, ⟨T132, L132, k132, n132⟩, -, X132, ⟨Lc132, hQ132, l132, y132, z132⟩, st132⟩ := X0.privateBack hx (y := (⟨OB, "checkVariable", "(I)V"⟩ : MethodName)) hown (mvT hZ (own_w hw 52 rfl)) (mvT hZ (own_w hw 53 rfl)) (own_selp (mvT hZ (own_w hw 50 rfl)) rfl (Cond.privateMethod_at (mvP hZ (own_w hw 54 rfl) (args := #[]))) (mvT hZ (own_w hw 53 rfl)) (by decide)) (Cond.privateMethod_at (mvP hZ (own_w hw 54 rfl) (args := #[]))) (mvT hZ (own_w hw 55 rfl)) (by decide) (backOf (W := 0) (rm8_2 l Z a0 hw [] a1 h0 n0 Z0 P1) hZ (own_w hw 55 rfl) (own_w hw 5 rfl) (by decide) (by decide)) (g := (mkF m 2 #[.val (.ref a1), .val (.int (2 : Int32))] [(.int (2 : Int32)), (.ref a1)])) rfl (by rw [hml]; rfl) (Steps.refl _) (a := a1) (by rw [e0]; exact q132) q132' (argsL := [(.int (2 : Int32))]) (rest := []) (lenOf pd_3 rfl) rfl (by show 2 * 0 + _ ≤ _; exact Nat.le_of_eq rfl) (hb hby d7_2) (fun _ _ => ⟨rfl, e0, (by decide : 0 + 0 ≤ _), (by decide : 0 + 0 ≤ _)⟩)
  dsimp only [Pt.U, Pt.locs, Pt.cells, Pt.slots] at X132 l132 y132 z132 st132 hQ132
  subst l132 y132 z132
  obtain ⟨rfl, Nq132, e132⟩ := hQ132
  have N132 := Fr.app N0 Nq132
  refine own_go (B := T132.setTop (mkF m 5 #[.val (.ref a1), .val (.int (2 : Int32))] [])) (fun t k => st132.trans k) ?_
  refine own_go (B := T132.setTop (mkF m 9 #[.val (.ref a1), .val (.int (2 : Int32))] [(.int (1 : Int32)), (.int (0 : Int32)), (.int (2 : Int32)), (.ref a1)])) (fun t k => ?_) ?_
  · refine XS.aloadN X132.here hx rfl (hb hby d7_5) rfl rfl ?_
    refine XS.iloadN X132.here hx rfl (hb hby d7_6) rfl ?_
    refine XS.iconst X132.here hx rfl (hb hby d7_7) ?_
    refine XS.iconst X132.here hx rfl (hb hby d7_8) ?_
    exact k
  obtain ⟨cq133, q133, q133'⟩ := P0.cell
  obtain ⟨_, _, ⟨T133, L133, k133, n133⟩, -, X133, ⟨Lc133, hQ133, l133, y133, z133⟩, st133⟩ := X132.privateBack hx (y := (⟨OB, "node", "(III)I"⟩ : MethodName)) hown (mvT hZ (own_w hw 56 rfl)) (mvT hZ (own_w hw 57 rfl)) (own_selp (mvT hZ (own_w hw 50 rfl)) rfl (Cond.privateMethod_at (mvP hZ (own_w hw 58 rfl) (args := #[]))) (mvT hZ (own_w hw 57 rfl)) (by decide)) (Cond.privateMethod_at (mvP hZ (own_w hw 58 rfl) (args := #[]))) (mvT hZ (own_w hw 59 rfl)) (by decide) (backOf (W := 0) (rm9 l Z a0 hw [] a1 (2 : Int32) (0 : Int32) (1 : Int32) b1 b2 b3 k1 k2 k3 ns bs cs sz cp n h0 n0 Z0 P0 P1 P2 P3 P4 P5 P6 P7 P8 P9 P10 P11 g_a1 g_b1 g_b2 ne_a1_b1 ne_a1_b2 ne_a1_b3 ne_b1_b2 ne_b1_b3 ne_b2_b3 qI qs qn (by decide) ⟨by decide, by have := qI.1.2.1; show (0 : Int) < n; omega⟩ ⟨by decide, by have := qI.1.2.1; show (1 : Int) < n; omega⟩ (by show (2 : Int) < own_vr ns 0; rw [qI.1.2.2.2.1]; decide) (by show (2 : Int) < own_vr ns 1; rw [qI.1.2.2.2.2.1]; decide)) hZ (own_w hw 59 rfl) (own_w hw 5 rfl) (by decide) (by decide)) (g := (mkF m 9 #[.val (.ref a1), .val (.int (2 : Int32))] [(.int (1 : Int32)), (.int (0 : Int32)), (.int (2 : Int32)), (.ref a1)])) rfl (by rw [hml]; rfl) (Steps.refl _) (a := a1) (by rw [e132]; exact q133) q133' (argsL := [(.int (2 : Int32)), (.int (0 : Int32)), (.int (1 : Int32))]) (rest := []) (lenOf pd_4 rfl) rfl (by show 2 * 0 + _ ≤ _; exact Nat.le_of_eq rfl) (hb hby d7_9) (fun _ _ => ⟨rfl, e132, (by decide : 0 + 0 ≤ _), (by decide : 0 + 0 ≤ _)⟩)
  dsimp only [Pt.U, Pt.locs, Pt.cells, Pt.slots] at X133 l133 y133 z133 st133 hQ133
  subst l133 y133 z133
  obtain ⟨ns'_133, bs'_133, sz'_133, n'_133, r'_133, rfl, Nq133, Kq133, U133_0, U133_1, U133_2, U133_3, U133_4, U133_5, U133_6, U133_7, U133_8, U133_9, U133_10, U133_11, Pq133_0⟩ := hQ133
  have Q134 : Exa Z T133.heap a1 OB := P0.keep Kq133
  have Q135 : Arv Z T133.heap b3 k3 .int (4096 : Int32) (own_I cs) (.int (0 : Int32)) := P11.keep Kq133 (ninS (Ne.symm ne_a1_b3) (ninS (Ne.symm ne_b1_b3) (ninS (Ne.symm ne_b2_b3) nin0)))
  have Z133 : n0 ≤ T133.heap.size := Nat.le_trans Z0 Kq133.1
  have K133 : Keep h0 T133.heap [a1, b1, b2] := K0.trans Kq133 (allS (Or.inl (List.mem_of_getElem? (i := 0) rfl)) (allS (Or.inl (List.mem_of_getElem? (i := 1) rfl)) (allS (Or.inl (List.mem_of_getElem? (i := 2) rfl)) all0)))
  have N133 := Fr.app N132 Nq133
  refine own_go (B := T133.setTop (mkF m 12 #[.val (.ref a1), .val (.int (2 : Int32))] [(.int r'_133)])) (fun t k => st133.trans k) ?_
  obtain ⟨fs, hr, hrun, hended, hW, hsame⟩ := X133.leave (v := some (.int r'_133)) (fun h => by rw [Bd.returns] at h; cases h)
  refine ⟨_, _, ?_, hrun, hended, _, _, rfl, ?_, ⟨_, rfl⟩, hW, hsame.mono (by decide) (by decide)⟩
  · show Steps p.tables e below (T133.setTop (mkF m 12 #[.val (.ref a1), .val (.int (2 : Int32))] [(.int r'_133)])) _
    exact retOut X133 hx Bd.returns rfl (Or.inl ⟨rfl, Or.inl rfl, _, rfl⟩) (hb hby d7_12) hr
  · show Qrm7_2 Z a1 b1 b2 b3 k1 k2 k3 ns bs cs sz cp n h0 n0 _ T133.heap _
    skip
    exact ⟨ns'_133, bs'_133, sz'_133, n'_133, r'_133, rfl, N133, K133, U133_0, U133_1, U133_2, U133_3, U133_4, U133_5, U133_6, U133_7, U133_8, U133_9, U133_10, U133_11, Pq133_0⟩
def frm21_0 (p2 : Int32) (p3 : Int32) (ns : List Int32) (i0 : Nat) : Int32 := (if (ns.getD (4 * i0) 0) = p3 then (ns.getD (4 * i0 + 1) 0) else p2)
def Qrm21_0 (Z : State) (a1 : Addr) (p2 : Int32) (p3 : Int32) (b1 : Addr) (k1 : ClassId) (ns : List Int32) (i0 : Nat) (h0 : Heap) (n0 : Nat) (v : Option Value) (h : Heap) (L : List Loc) : Prop := v = some (.int (frm21_0 p2 p3 ns i0)) ∧ Fr n0 L ∧ h = h0
theorem efrm21_0 (m : MethodId) (x0 : Addr) (x1 : Int32) (x2 : Int32) : entryFrame m #[(.ref x0), (.int x1), (.int x2), (.int (0 : Int32))] 5 = mkF m 0 #[.val (.ref x0), .val (.int x1), .val (.int x2), .val (.int (0 : Int32)), .unset] [] := by first | (simp [entryFrame, mkF, argsToLocals, Value.category]; done) | rfl
set_option maxRecDepth 65536 in
set_option maxHeartbeats 40000000 in
theorem rm21_0 (l : Launch) (Z : State) (a0 : Array Value) (hw : ∀ d ∈ tables_1, d.before a0 Z = true) (ws : List Jvm.Cond) (a1 : Addr) (p2 : Int32) (p3 : Int32) (b1 : Addr) (k1 : ClassId) (ns : List Int32) (i0 : Nat) (h0 : Heap) (n0 : Nat) (Z0 : n0 ≤ h0.size) (P0 : Exa Z h0 a1 OB) (P1 : Fld Z h0 a1 OB "nodes" "[I" (.ref b1)) (P2 : Arv Z h0 b1 k1 .int (256 : Int32) (own_I ns) (.int (0 : Int32))) (qi : p2.toInt = (i0 : Int)) (qb : i0 < 64) :
    MetFree l (⟨OB, "cofactor", "(IIZ)I"⟩ : MethodName) (head1 (Jvm.Cond.code (⟨OB, "cofactor", "(IIZ)I"⟩ : MethodName) prog_103_method_18_code 5 (some .int) :: ws) ({ frames := 1, cells := 0, slots := 0, locals := 13 } : Room)) (fun a U => a = #[(.ref a1), (.int p2), (.int p3), (.int (0 : Int32))] ∧ Z.Warmed39 U.vm ∧ U.heap = h0) (fun _ _ _ _ _ => True) (fun _ U o U' => ∃ v L, o = .returned v ∧ Qrm21_0 Z a1 p2 p3 b1 k1 ns i0 h0 n0 v U'.heap L ∧ FrameEnd U o U' L ({ frames := 1, cells := 0, slots := 0, locals := 13 } : Room).cells ({ frames := 1, cells := 0, slots := 0, locals := 13 } : Room).slots) := by
  refine MetFree.of_bodySF (plainFor_of_name pn_0) hisR ?_
  intro p e s m args below meth c s₁ Bd hml0 hP hK
  obtain ⟨rfl, hZ, hh⟩ := hP
  have hx := Bd.exec
  have hby := Bd.bytes
  have hml : c.maxLocals = 5 := hml0
  have hown : s.vm.findClass OB = some m.cls := findClass_of_methodNamed Bd.named
  have hnm := (name_of_methodNamed Bd.named Bd.method).1
  have X0 : Stand p l e ({ frames := 1, cells := 0, slots := 0, locals := 13 } : Room) s m #[(.ref a1), (.int p2), (.int p3), (.int (0 : Int32))] below meth c s₁ [] 0 0 := Stand.of_body Bd
  have e0 : s₁.heap = h0 := by rw [← hh, Bd.state]; rfl
  have N0 := Fr.nil n0
  have K0 : Keep h0 h0 [] := Keep.refl h0 _
  refine own_go (B := s₁.setTop (mkF m 0 #[.val (.ref a1), .val (.int p2), .val (.int p3), .val (.int (0 : Int32)), .unset] [])) (fun t k => castTop (efrm21_0 m a1 p2 p3) k) ?_
  refine own_go (B := s₁.setTop (mkF m 5 #[.val (.ref a1), .val (.int p2), .val (.int p3), .val (.int (0 : Int32)), .val (.int p2)] [(.int p2), (.ref a1)])) (fun t k => ?_) ?_
  · refine XS.iloadN X0.here hx rfl (hb hby d21_0) rfl ?_
    refine XS.istore X0.here hx rfl (hb hby d21_1) rfl (l' := #[.val (.ref a1), .val (.int p2), .val (.int p3), .val (.int (0 : Int32)), .val (.int p2)]) rfl ?_
    refine XS.aloadN X0.here hx rfl (hb hby d21_3) rfl rfl ?_
    refine XS.iloadN X0.here hx rfl (hb hby d21_4) rfl ?_
    exact k
  obtain ⟨cq136, q136, q136'⟩ := P0.cell
  obtain ⟨_, _, ⟨T136, L136, k136, n136⟩, -, X136, ⟨Lc136, hQ136, l136, y136, z136⟩, st136⟩ := X0.privateBack hx (y := (⟨OB, "variableOf", "(I)I"⟩ : MethodName)) hown (mvT hZ (own_w hw 102 rfl)) (mvT hZ (own_w hw 103 rfl)) (own_selp (mvT hZ (own_w hw 50 rfl)) rfl (Cond.privateMethod_at (mvP hZ (own_w hw 104 rfl) (args := #[]))) (mvT hZ (own_w hw 103 rfl)) (by decide)) (Cond.privateMethod_at (mvP hZ (own_w hw 104 rfl) (args := #[]))) (mvT hZ (own_w hw 105 rfl)) (by decide) (backOf (W := 0) (rm20 l Z a0 hw [] a1 p2 b1 k1 ns i0 h0 n0 Z0 P1 P2 qi qb) hZ (own_w hw 105 rfl) (own_w hw 5 rfl) (by decide) (by decide)) (g := (mkF m 5 #[.val (.ref a1), .val (.int p2), .val (.int p3), .val (.int (0 : Int32)), .val (.int p2)] [(.int p2), (.ref a1)])) rfl (by rw [hml]; rfl) (Steps.refl _) (a := a1) (by rw [e0]; exact q136) q136' (argsL := [(.int p2)]) (rest := []) (lenOf pd_2 rfl) rfl (by show 2 * 0 + _ ≤ _; exact Nat.le_of_eq rfl) (hb hby d21_5) (fun _ _ => ⟨rfl, e0, (by decide : 0 + 0 ≤ _), (by decide : 0 + 0 ≤ _)⟩)
  dsimp only [Pt.U, Pt.locs, Pt.cells, Pt.slots] at X136 l136 y136 z136 st136 hQ136
  subst l136 y136 z136
  obtain ⟨rfl, Nq136, e136⟩ := hQ136
  have N136 := Fr.app N0 Nq136
  refine own_go (B := T136.setTop (mkF m 8 #[.val (.ref a1), .val (.int p2), .val (.int p3), .val (.int (0 : Int32)), .val (.int p2)] [(.int (ns.getD (4 * i0) 0))])) (fun t k => st136.trans k) ?_
  refine own_go (B := T136.setTop (mkF m 9 #[.val (.ref a1), .val (.int p2), .val (.int p3), .val (.int (0 : Int32)), .val (.int p2)] [(.int p3), (.int (ns.getD (4 * i0) 0))])) (fun t k => ?_) ?_
  · refine XS.iloadN X136.here hx rfl (hb hby d21_8) rfl ?_
    exact k
  by_cases hc9_137 : (ns.getD (4 * i0) 0) = p3
  · refine own_go (B := T136.setTop (mkF m 12 #[.val (.ref a1), .val (.int p2), .val (.int p3), .val (.int (0 : Int32)), .val (.int p2)] [])) (fun t k => ?_) ?_
    · refine XS.icmpNo X136.here hx rfl (hb hby d21_9) rfl (teq hc9_137).2 ?_
      exact k
    refine own_go (B := T136.setTop (mkF m 26 #[.val (.ref a1), .val (.int p2), .val (.int p3), .val (.int (0 : Int32)), .val (.int p2)] [(.int p2), (.ref a1)])) (fun t k => ?_) ?_
    · refine XS.iloadN X136.here hx rfl (hb hby d21_12) rfl ?_
      refine XS.ifYes X136.here hx rfl (pc0 := 13) (pc' := 24) rfl (hb hby d21_13) rfl ((if0 _ _).trans (teq (rfl : (0 : Int32) = (0 : Int32))).1) (by decide) (by decide) ?_
      refine XS.aloadN X136.here hx rfl (hb hby d21_24) rfl rfl ?_
      refine XS.iloadN X136.here hx rfl (hb hby d21_25) rfl ?_
      exact k
    obtain ⟨cq139, q139, q139'⟩ := P0.cell
    obtain ⟨_, _, ⟨T139, L139, k139, n139⟩, -, X139, ⟨Lc139, hQ139, l139, y139, z139⟩, st139⟩ := X136.privateBack hx (y := (⟨OB, "low", "(I)I"⟩ : MethodName)) hown (mvT hZ (own_w hw 110 rfl)) (mvT hZ (own_w hw 111 rfl)) (own_selp (mvT hZ (own_w hw 50 rfl)) rfl (Cond.privateMethod_at (mvP hZ (own_w hw 112 rfl) (args := #[]))) (mvT hZ (own_w hw 111 rfl)) (by decide)) (Cond.privateMethod_at (mvP hZ (own_w hw 112 rfl) (args := #[]))) (mvT hZ (own_w hw 113 rfl)) (by decide) (backOf (W := 0) (rm22 l Z a0 hw [] a1 p2 b1 k1 ns i0 h0 n0 Z0 P1 P2 qi qb) hZ (own_w hw 113 rfl) (own_w hw 5 rfl) (by decide) (by decide)) (g := (mkF m 26 #[.val (.ref a1), .val (.int p2), .val (.int p3), .val (.int (0 : Int32)), .val (.int p2)] [(.int p2), (.ref a1)])) rfl (by rw [hml]; rfl) (Steps.refl _) (a := a1) (by rw [e136]; exact q139) q139' (argsL := [(.int p2)]) (rest := []) (lenOf pd_2 rfl) rfl (by show 2 * 0 + _ ≤ _; exact Nat.le_of_eq rfl) (hb hby d21_26) (fun _ _ => ⟨rfl, e136, (by decide : 0 + 0 ≤ _), (by decide : 0 + 0 ≤ _)⟩)
    dsimp only [Pt.U, Pt.locs, Pt.cells, Pt.slots] at X139 l139 y139 z139 st139 hQ139
    subst l139 y139 z139
    obtain ⟨rfl, Nq139, e139⟩ := hQ139
    have N139 := Fr.app N136 Nq139
    refine own_go (B := T139.setTop (mkF m 29 #[.val (.ref a1), .val (.int p2), .val (.int p3), .val (.int (0 : Int32)), .val (.int p2)] [(.int (ns.getD (4 * i0 + 1) 0))])) (fun t k => st139.trans k) ?_
    refine own_go (B := T139.setTop (mkF m 33 #[.val (.ref a1), .val (.int p2), .val (.int p3), .val (.int (0 : Int32)), .val (.int (ns.getD (4 * i0 + 1) 0))] [(.int (ns.getD (4 * i0 + 1) 0))])) (fun t k => ?_) ?_
    · refine XS.istore X139.here hx rfl (hb hby d21_29) rfl (l' := #[.val (.ref a1), .val (.int p2), .val (.int p3), .val (.int (0 : Int32)), .val (.int (ns.getD (4 * i0 + 1) 0))]) rfl ?_
      refine XS.iload X139.here hx rfl (hb hby d21_31) rfl ?_
      exact k
    obtain ⟨fs, hr, hrun, hended, hW, hsame⟩ := X139.leave (v := some (.int (ns.getD (4 * i0 + 1) 0))) (fun h => by rw [Bd.returns] at h; cases h)
    refine ⟨_, _, ?_, hrun, hended, _, _, rfl, ?_, ⟨_, rfl⟩, hW, hsame.mono (by decide) (by decide)⟩
    · show Steps p.tables e below (T139.setTop (mkF m 33 #[.val (.ref a1), .val (.int p2), .val (.int p3), .val (.int (0 : Int32)), .val (.int (ns.getD (4 * i0 + 1) 0))] [(.int (ns.getD (4 * i0 + 1) 0))])) _
      exact retOut X139 hx Bd.returns rfl (Or.inl ⟨rfl, Or.inl rfl, _, rfl⟩) (hb hby d21_33) hr
    · show Qrm21_0 Z a1 p2 p3 b1 k1 ns i0 h0 n0 _ T139.heap _
      rw [e139]
      exact ⟨(by simp only [frm21_0, if_pos hc9_137]), N139, rfl⟩
  · refine own_go (B := T136.setTop (mkF m 31 #[.val (.ref a1), .val (.int p2), .val (.int p3), .val (.int (0 : Int32)), .val (.int p2)] [])) (fun t k => ?_) ?_
    · refine XS.icmpYes X136.here hx rfl (pc0 := 9) (pc' := 31) rfl (hb hby d21_9) rfl (feq hc9_137).2 (by decide) (by decide) ?_
      exact k
    refine own_go (B := T136.setTop (mkF m 33 #[.val (.ref a1), .val (.int p2), .val (.int p3), .val (.int (0 : Int32)), .val (.int p2)] [(.int p2)])) (fun t k => ?_) ?_
    · refine XS.iload X136.here hx rfl (hb hby d21_31) rfl ?_
      exact k
    obtain ⟨fs, hr, hrun, hended, hW, hsame⟩ := X136.leave (v := some (.int p2)) (fun h => by rw [Bd.returns] at h; cases h)
    refine ⟨_, _, ?_, hrun, hended, _, _, rfl, ?_, ⟨_, rfl⟩, hW, hsame.mono (by decide) (by decide)⟩
    · show Steps p.tables e below (T136.setTop (mkF m 33 #[.val (.ref a1), .val (.int p2), .val (.int p3), .val (.int (0 : Int32)), .val (.int p2)] [(.int p2)])) _
      exact retOut X136 hx Bd.returns rfl (Or.inl ⟨rfl, Or.inl rfl, _, rfl⟩) (hb hby d21_33) hr
    · show Qrm21_0 Z a1 p2 p3 b1 k1 ns i0 h0 n0 _ T136.heap _
      rw [e136]
      exact ⟨(by simp only [frm21_0, if_neg hc9_137]), N136, rfl⟩
def frm21_1 (p2 : Int32) (p3 : Int32) (ns : List Int32) (i0 : Nat) : Int32 := (if (ns.getD (4 * i0) 0) = p3 then (ns.getD (4 * i0 + 2) 0) else p2)
def Qrm21_1 (Z : State) (a1 : Addr) (p2 : Int32) (p3 : Int32) (b1 : Addr) (k1 : ClassId) (ns : List Int32) (i0 : Nat) (h0 : Heap) (n0 : Nat) (v : Option Value) (h : Heap) (L : List Loc) : Prop := v = some (.int (frm21_1 p2 p3 ns i0)) ∧ Fr n0 L ∧ h = h0
theorem efrm21_1 (m : MethodId) (x0 : Addr) (x1 : Int32) (x2 : Int32) : entryFrame m #[(.ref x0), (.int x1), (.int x2), (.int (1 : Int32))] 5 = mkF m 0 #[.val (.ref x0), .val (.int x1), .val (.int x2), .val (.int (1 : Int32)), .unset] [] := by first | (simp [entryFrame, mkF, argsToLocals, Value.category]; done) | rfl
set_option maxRecDepth 65536 in
set_option maxHeartbeats 40000000 in
theorem rm21_1 (l : Launch) (Z : State) (a0 : Array Value) (hw : ∀ d ∈ tables_1, d.before a0 Z = true) (ws : List Jvm.Cond) (a1 : Addr) (p2 : Int32) (p3 : Int32) (b1 : Addr) (k1 : ClassId) (ns : List Int32) (i0 : Nat) (h0 : Heap) (n0 : Nat) (Z0 : n0 ≤ h0.size) (P0 : Exa Z h0 a1 OB) (P1 : Fld Z h0 a1 OB "nodes" "[I" (.ref b1)) (P2 : Arv Z h0 b1 k1 .int (256 : Int32) (own_I ns) (.int (0 : Int32))) (qi : p2.toInt = (i0 : Int)) (qb : i0 < 64) :
    MetFree l (⟨OB, "cofactor", "(IIZ)I"⟩ : MethodName) (head1 (Jvm.Cond.code (⟨OB, "cofactor", "(IIZ)I"⟩ : MethodName) prog_103_method_18_code 5 (some .int) :: ws) ({ frames := 1, cells := 0, slots := 0, locals := 13 } : Room)) (fun a U => a = #[(.ref a1), (.int p2), (.int p3), (.int (1 : Int32))] ∧ Z.Warmed39 U.vm ∧ U.heap = h0) (fun _ _ _ _ _ => True) (fun _ U o U' => ∃ v L, o = .returned v ∧ Qrm21_1 Z a1 p2 p3 b1 k1 ns i0 h0 n0 v U'.heap L ∧ FrameEnd U o U' L ({ frames := 1, cells := 0, slots := 0, locals := 13 } : Room).cells ({ frames := 1, cells := 0, slots := 0, locals := 13 } : Room).slots) := by
  refine MetFree.of_bodySF (plainFor_of_name pn_0) hisR ?_
  intro p e s m args below meth c s₁ Bd hml0 hP hK
  obtain ⟨rfl, hZ, hh⟩ := hP
  have hx := Bd.exec
  have hby := Bd.bytes
  have hml : c.maxLocals = 5 := hml0
  have hown : s.vm.findClass OB = some m.cls := findClass_of_methodNamed Bd.named
  have hnm := (name_of_methodNamed Bd.named Bd.method).1
  have X0 : Stand p l e ({ frames := 1, cells := 0, slots := 0, locals := 13 } : Room) s m #[(.ref a1), (.int p2), (.int p3), (.int (1 : Int32))] below meth c s₁ [] 0 0 := Stand.of_body Bd
  have e0 : s₁.heap = h0 := by rw [← hh, Bd.state]; rfl
  have N0 := Fr.nil n0
  have K0 : Keep h0 h0 [] := Keep.refl h0 _
  refine own_go (B := s₁.setTop (mkF m 0 #[.val (.ref a1), .val (.int p2), .val (.int p3), .val (.int (1 : Int32)), .unset] [])) (fun t k => castTop (efrm21_1 m a1 p2 p3) k) ?_
  refine own_go (B := s₁.setTop (mkF m 5 #[.val (.ref a1), .val (.int p2), .val (.int p3), .val (.int (1 : Int32)), .val (.int p2)] [(.int p2), (.ref a1)])) (fun t k => ?_) ?_
  · refine XS.iloadN X0.here hx rfl (hb hby d21_0) rfl ?_
    refine XS.istore X0.here hx rfl (hb hby d21_1) rfl (l' := #[.val (.ref a1), .val (.int p2), .val (.int p3), .val (.int (1 : Int32)), .val (.int p2)]) rfl ?_
    refine XS.aloadN X0.here hx rfl (hb hby d21_3) rfl rfl ?_
    refine XS.iloadN X0.here hx rfl (hb hby d21_4) rfl ?_
    exact k
  obtain ⟨cq140, q140, q140'⟩ := P0.cell
  obtain ⟨_, _, ⟨T140, L140, k140, n140⟩, -, X140, ⟨Lc140, hQ140, l140, y140, z140⟩, st140⟩ := X0.privateBack hx (y := (⟨OB, "variableOf", "(I)I"⟩ : MethodName)) hown (mvT hZ (own_w hw 102 rfl)) (mvT hZ (own_w hw 103 rfl)) (own_selp (mvT hZ (own_w hw 50 rfl)) rfl (Cond.privateMethod_at (mvP hZ (own_w hw 104 rfl) (args := #[]))) (mvT hZ (own_w hw 103 rfl)) (by decide)) (Cond.privateMethod_at (mvP hZ (own_w hw 104 rfl) (args := #[]))) (mvT hZ (own_w hw 105 rfl)) (by decide) (backOf (W := 0) (rm20 l Z a0 hw [] a1 p2 b1 k1 ns i0 h0 n0 Z0 P1 P2 qi qb) hZ (own_w hw 105 rfl) (own_w hw 5 rfl) (by decide) (by decide)) (g := (mkF m 5 #[.val (.ref a1), .val (.int p2), .val (.int p3), .val (.int (1 : Int32)), .val (.int p2)] [(.int p2), (.ref a1)])) rfl (by rw [hml]; rfl) (Steps.refl _) (a := a1) (by rw [e0]; exact q140) q140' (argsL := [(.int p2)]) (rest := []) (lenOf pd_2 rfl) rfl (by show 2 * 0 + _ ≤ _; exact Nat.le_of_eq rfl) (hb hby d21_5) (fun _ _ => ⟨rfl, e0, (by decide : 0 + 0 ≤ _), (by decide : 0 + 0 ≤ _)⟩)
  dsimp only [Pt.U, Pt.locs, Pt.cells, Pt.slots] at X140 l140 y140 z140 st140 hQ140
  subst l140 y140 z140
  obtain ⟨rfl, Nq140, e140⟩ := hQ140
  have N140 := Fr.app N0 Nq140
  refine own_go (B := T140.setTop (mkF m 8 #[.val (.ref a1), .val (.int p2), .val (.int p3), .val (.int (1 : Int32)), .val (.int p2)] [(.int (ns.getD (4 * i0) 0))])) (fun t k => st140.trans k) ?_
  refine own_go (B := T140.setTop (mkF m 9 #[.val (.ref a1), .val (.int p2), .val (.int p3), .val (.int (1 : Int32)), .val (.int p2)] [(.int p3), (.int (ns.getD (4 * i0) 0))])) (fun t k => ?_) ?_
  · refine XS.iloadN X140.here hx rfl (hb hby d21_8) rfl ?_
    exact k
  by_cases hc9_141 : (ns.getD (4 * i0) 0) = p3
  · refine own_go (B := T140.setTop (mkF m 12 #[.val (.ref a1), .val (.int p2), .val (.int p3), .val (.int (1 : Int32)), .val (.int p2)] [])) (fun t k => ?_) ?_
    · refine XS.icmpNo X140.here hx rfl (hb hby d21_9) rfl (teq hc9_141).2 ?_
      exact k
    refine own_go (B := T140.setTop (mkF m 18 #[.val (.ref a1), .val (.int p2), .val (.int p3), .val (.int (1 : Int32)), .val (.int p2)] [(.int p2), (.ref a1)])) (fun t k => ?_) ?_
    · refine XS.iloadN X140.here hx rfl (hb hby d21_12) rfl ?_
      refine XS.ifNo X140.here hx rfl (hb hby d21_13) rfl ((if0 _ _).trans (feq (by decide : ¬ ((1 : Int32) = (0 : Int32)))).1) ?_
      refine XS.aloadN X140.here hx rfl (hb hby d21_16) rfl rfl ?_
      refine XS.iloadN X140.here hx rfl (hb hby d21_17) rfl ?_
      exact k
    obtain ⟨cq143, q143, q143'⟩ := P0.cell
    obtain ⟨_, _, ⟨T143, L143, k143, n143⟩, -, X143, ⟨Lc143, hQ143, l143, y143, z143⟩, st143⟩ := X140.privateBack hx (y := (⟨OB, "high", "(I)I"⟩ : MethodName)) hown (mvT hZ (own_w hw 114 rfl)) (mvT hZ (own_w hw 115 rfl)) (own_selp (mvT hZ (own_w hw 50 rfl)) rfl (Cond.privateMethod_at (mvP hZ (own_w hw 116 rfl) (args := #[]))) (mvT hZ (own_w hw 115 rfl)) (by decide)) (Cond.privateMethod_at (mvP hZ (own_w hw 116 rfl) (args := #[]))) (mvT hZ (own_w hw 117 rfl)) (by decide) (backOf (W := 0) (rm23 l Z a0 hw [] a1 p2 b1 k1 ns i0 h0 n0 Z0 P1 P2 qi qb) hZ (own_w hw 117 rfl) (own_w hw 5 rfl) (by decide) (by decide)) (g := (mkF m 18 #[.val (.ref a1), .val (.int p2), .val (.int p3), .val (.int (1 : Int32)), .val (.int p2)] [(.int p2), (.ref a1)])) rfl (by rw [hml]; rfl) (Steps.refl _) (a := a1) (by rw [e140]; exact q143) q143' (argsL := [(.int p2)]) (rest := []) (lenOf pd_2 rfl) rfl (by show 2 * 0 + _ ≤ _; exact Nat.le_of_eq rfl) (hb hby d21_18) (fun _ _ => ⟨rfl, e140, (by decide : 0 + 0 ≤ _), (by decide : 0 + 0 ≤ _)⟩)
    dsimp only [Pt.U, Pt.locs, Pt.cells, Pt.slots] at X143 l143 y143 z143 st143 hQ143
    subst l143 y143 z143
    obtain ⟨rfl, Nq143, e143⟩ := hQ143
    have N143 := Fr.app N140 Nq143
    refine own_go (B := T143.setTop (mkF m 21 #[.val (.ref a1), .val (.int p2), .val (.int p3), .val (.int (1 : Int32)), .val (.int p2)] [(.int (ns.getD (4 * i0 + 2) 0))])) (fun t k => st143.trans k) ?_
    refine own_go (B := T143.setTop (mkF m 33 #[.val (.ref a1), .val (.int p2), .val (.int p3), .val (.int (1 : Int32)), .val (.int (ns.getD (4 * i0 + 2) 0))] [(.int (ns.getD (4 * i0 + 2) 0))])) (fun t k => ?_) ?_
    · refine XS.goto X143.here hx rfl (pc0 := 21) (pc' := 29) rfl (hb hby d21_21) (by decide) (by decide) ?_
      refine XS.istore X143.here hx rfl (hb hby d21_29) rfl (l' := #[.val (.ref a1), .val (.int p2), .val (.int p3), .val (.int (1 : Int32)), .val (.int (ns.getD (4 * i0 + 2) 0))]) rfl ?_
      refine XS.iload X143.here hx rfl (hb hby d21_31) rfl ?_
      exact k
    obtain ⟨fs, hr, hrun, hended, hW, hsame⟩ := X143.leave (v := some (.int (ns.getD (4 * i0 + 2) 0))) (fun h => by rw [Bd.returns] at h; cases h)
    refine ⟨_, _, ?_, hrun, hended, _, _, rfl, ?_, ⟨_, rfl⟩, hW, hsame.mono (by decide) (by decide)⟩
    · show Steps p.tables e below (T143.setTop (mkF m 33 #[.val (.ref a1), .val (.int p2), .val (.int p3), .val (.int (1 : Int32)), .val (.int (ns.getD (4 * i0 + 2) 0))] [(.int (ns.getD (4 * i0 + 2) 0))])) _
      exact retOut X143 hx Bd.returns rfl (Or.inl ⟨rfl, Or.inl rfl, _, rfl⟩) (hb hby d21_33) hr
    · show Qrm21_1 Z a1 p2 p3 b1 k1 ns i0 h0 n0 _ T143.heap _
      rw [e143]
      exact ⟨(by simp only [frm21_1, if_pos hc9_141]), N143, rfl⟩
  · refine own_go (B := T140.setTop (mkF m 31 #[.val (.ref a1), .val (.int p2), .val (.int p3), .val (.int (1 : Int32)), .val (.int p2)] [])) (fun t k => ?_) ?_
    · refine XS.icmpYes X140.here hx rfl (pc0 := 9) (pc' := 31) rfl (hb hby d21_9) rfl (feq hc9_141).2 (by decide) (by decide) ?_
      exact k
    refine own_go (B := T140.setTop (mkF m 33 #[.val (.ref a1), .val (.int p2), .val (.int p3), .val (.int (1 : Int32)), .val (.int p2)] [(.int p2)])) (fun t k => ?_) ?_
    · refine XS.iload X140.here hx rfl (hb hby d21_31) rfl ?_
      exact k
    obtain ⟨fs, hr, hrun, hended, hW, hsame⟩ := X140.leave (v := some (.int p2)) (fun h => by rw [Bd.returns] at h; cases h)
    refine ⟨_, _, ?_, hrun, hended, _, _, rfl, ?_, ⟨_, rfl⟩, hW, hsame.mono (by decide) (by decide)⟩
    · show Steps p.tables e below (T140.setTop (mkF m 33 #[.val (.ref a1), .val (.int p2), .val (.int p3), .val (.int (1 : Int32)), .val (.int p2)] [(.int p2)])) _
      exact retOut X140 hx Bd.returns rfl (Or.inl ⟨rfl, Or.inl rfl, _, rfl⟩) (hb hby d21_33) hr
    · show Qrm21_1 Z a1 p2 p3 b1 k1 ns i0 h0 n0 _ T140.heap _
      rw [e140]
      exact ⟨(by simp only [frm21_1, if_neg hc9_141]), N140, rfl⟩
def own_e (h : Int32) : Nat := ((h.toUInt32 >>> ((22 : Int32) &&& 31).toUInt32).toInt32).toInt.toNat
theorem own_en_spec (h : Int32) : ((4 : Int32) * ((h.toUInt32 >>> ((22 : Int32) &&& 31).toUInt32).toInt32)).toInt = ((4 * own_e h : Nat) : Int) ∧ own_e h < 1024 := by
  have a := c_iushr h 22 22 (by decide) (by omega)
  have b : (2 ^ 22 : Nat) = 4194304 := by decide
  rw [b] at a
  unfold own_e
  generalize ((h.toUInt32 >>> ((22 : Int32) &&& 31).toUInt32).toInt32) = y at *
  have c : y.toInt.toNat < 1024 := by omega
  exact ⟨own_ix0 y _ (by omega) c, c⟩
theorem own_lt4 {e : Nat} (h : e < 1024) : 4 * e < 4096 := by omega
theorem own_lt4c {e c : Nat} (h : e < 1024) (hc : c < 4) : 4 * e + c < 4096 := by omega
theorem own_cp_ne {cp : Int64} (h : 0 ≤ cp.toInt ∧ cp.toInt ≤ 1000) : ¬ (cp = (9223372036854775807 : Int64)) := fun e => by
  have q : (9223372036854775807 : Int64).toInt = 9223372036854775807 := rfl
  rw [e, q] at h; omega
theorem own_cp_small {cp : Int64} (h : 0 ≤ cp.toInt ∧ cp.toInt ≤ 1000) : ¬ (((1 : Int64) <<< ((10 : Int32) &&& 0x3f).toInt64) < cp + (1 : Int64)) := by
  have q : ((1 : Int64) <<< ((10 : Int32) &&& 0x3f).toInt64).toInt = 1024 := by decide
  have e : (1 : Int64).toInt = 1 := rfl
  have a := c_ladd cp 1
  have b := rng64 (cp + 1)
  rw [Int64.lt_iff_toInt_lt, q]; omega
def Qrm19 (Z : State) (a1 : Addr) (p2 : Int32) (p3 : Int32) (p4 : Int32) (h0 : Heap) (n0 : Nat) (v : Option Value) (h : Heap) (L : List Loc) : Prop := v = some (.int ((4 : Int32) * (((own_hash p2 p3 p4 (0 : Int32)).toUInt32 >>> ((22 : Int32) &&& 31).toUInt32).toInt32))) ∧ Fr n0 L ∧ h = h0
theorem efrm19 (m : MethodId) (x0 : Addr) (x1 : Int32) (x2 : Int32) (x3 : Int32) : entryFrame m #[(.ref x0), (.int x1), (.int x2), (.int x3), (.int (0 : Int32))] 5 = mkF m 0 #[.val (.ref x0), .val (.int x1), .val (.int x2), .val (.int x3), .val (.int (0 : Int32))] [] := by first | (simp [entryFrame, mkF, argsToLocals, Value.category]; done) | rfl
set_option maxRecDepth 65536 in
set_option maxHeartbeats 40000000 in
theorem rm19 (l : Launch) (Z : State) (a0 : Array Value) (hw : ∀ d ∈ tables_1, d.before a0 Z = true) (ws : List Jvm.Cond) (a1 : Addr) (p2 : Int32) (p3 : Int32) (p4 : Int32) (h0 : Heap) (n0 : Nat) (Z0 : n0 ≤ h0.size) (P0 : Fld Z h0 a1 OB "cacheBits" "I" (.int (10 : Int32))) :
    MetFree l (⟨OB, "entry", "(IIII)I"⟩ : MethodName) (head1 (Jvm.Cond.code (⟨OB, "entry", "(IIII)I"⟩ : MethodName) prog_103_method_30_code 5 (some .int) :: ws) ({ frames := 1, cells := 0, slots := 0, locals := 17 } : Room)) (fun a U => a = #[(.ref a1), (.int p2), (.int p3), (.int p4), (.int (0 : Int32))] ∧ Z.Warmed39 U.vm ∧ U.heap = h0) (fun _ _ _ _ _ => True) (fun _ U o U' => ∃ v L, o = .returned v ∧ Qrm19 Z a1 p2 p3 p4 h0 n0 v U'.heap L ∧ FrameEnd U o U' L ({ frames := 1, cells := 0, slots := 0, locals := 17 } : Room).cells ({ frames := 1, cells := 0, slots := 0, locals := 17 } : Room).slots) := by
  refine MetFree.of_bodySF (plainFor_of_name pn_0) hisR ?_
  intro p e s m args below meth c s₁ Bd hml0 hP hK
  obtain ⟨rfl, hZ, hh⟩ := hP
  have hx := Bd.exec
  have hby := Bd.bytes
  have hml : c.maxLocals = 5 := hml0
  have hown : s.vm.findClass OB = some m.cls := findClass_of_methodNamed Bd.named
  have hnm := (name_of_methodNamed Bd.named Bd.method).1
  have X0 : Stand p l e ({ frames := 1, cells := 0, slots := 0, locals := 17 } : Room) s m #[(.ref a1), (.int p2), (.int p3), (.int p4), (.int (0 : Int32))] below meth c s₁ [] 0 0 := Stand.of_body Bd
  have e0 : s₁.heap = h0 := by rw [← hh, Bd.state]; rfl
  have N0 := Fr.nil n0
  have K0 : Keep h0 h0 [] := Keep.refl h0 _
  refine own_go (B := s₁.setTop (mkF m 0 #[.val (.ref a1), .val (.int p2), .val (.int p3), .val (.int p4), .val (.int (0 : Int32))] [])) (fun t k => castTop (efrm19 m a1 p2 p3 p4) k) ?_
  refine own_go (B := s₁.setTop (mkF m 6 #[.val (.ref a1), .val (.int p2), .val (.int p3), .val (.int p4), .val (.int (0 : Int32))] [(.int (0 : Int32)), (.int p4), (.int p3), (.int p2), (.int (4 : Int32))])) (fun t k => ?_) ?_
  · refine XS.iconst X0.here hx rfl (hb hby d19_0) ?_
    refine XS.iloadN X0.here hx rfl (hb hby d19_1) rfl ?_
    refine XS.iloadN X0.here hx rfl (hb hby d19_2) rfl ?_
    refine XS.iloadN X0.here hx rfl (hb hby d19_3) rfl ?_
    refine XS.iload X0.here hx rfl (hb hby d19_4) rfl ?_
    exact k
  obtain ⟨_, _, ⟨T144, L144, k144, n144⟩, -, X144, ⟨Lc144, hQ144, l144, y144, z144⟩, st144⟩ := Jvm.LawKit.callS X0 hx (y := (⟨OB, "hash", "(IIII)I"⟩ : MethodName)) hown (mvT hZ (own_w hw 60 rfl)) (mvT hZ (own_w hw 61 rfl)) (mvT hZ (own_w hw 5 rfl)) (mvT hZ (own_w hw 62 rfl)) (by decide) (backOf (W := 1) (rm10 l Z a0 hw [] p2 p3 p4 (0 : Int32) h0 n0 Z0 ) hZ (own_w hw 62 rfl) (own_w hw 5 rfl) (by decide) (by decide)) (g := (mkF m 6 #[.val (.ref a1), .val (.int p2), .val (.int p3), .val (.int p4), .val (.int (0 : Int32))] [(.int (0 : Int32)), (.int p4), (.int p3), (.int p2), (.int (4 : Int32))])) rfl (by rw [hml]; rfl) (argsL := [(.int p2), (.int p3), (.int p4), (.int (0 : Int32))]) (rest := [(.int (4 : Int32))]) (lenOf pd_0 rfl) rfl (by show 2 * 0 + _ ≤ _; exact Nat.le_of_eq rfl) (hb hby d19_6) (fun _ _ => ⟨rfl, e0, (by decide : 0 + 0 ≤ _), (by decide : 0 + 0 ≤ _)⟩)
  dsimp only [Pt.U, Pt.locs, Pt.cells, Pt.slots] at X144 l144 y144 z144 st144 hQ144
  subst l144 y144 z144
  obtain ⟨rfl, Nq144, e144⟩ := hQ144
  have N144 := Fr.app N0 Nq144
  refine own_go (B := T144.setTop (mkF m 9 #[.val (.ref a1), .val (.int p2), .val (.int p3), .val (.int p4), .val (.int (0 : Int32))] [(.int (own_hash p2 p3 p4 (0 : Int32))), (.int (4 : Int32))])) st144 ?_
  refine own_go (B := T144.setTop (mkF m 12 #[.val (.ref a1), .val (.int p2), .val (.int p3), .val (.int p4), .val (.int (0 : Int32))] [(.ref a1), (.int (32 : Int32)), (.int (own_hash p2 p3 p4 (0 : Int32))), (.int (4 : Int32))])) (fun t k => ?_) ?_
  · refine XS.bipush X144.here hx rfl (hb hby d19_9) ?_
    refine XS.aloadN X144.here hx rfl (hb hby d19_11) rfl rfl ?_
    exact k
  obtain ⟨T145, X145, e145, st145⟩ := getF X144 hx hZ hown (host := "") (Or.inl (own_w hw 41 rfl)) Via.refl e144 P0 (g := (mkF m 12 #[.val (.ref a1), .val (.int p2), .val (.int p3), .val (.int p4), .val (.int (0 : Int32))] [(.ref a1), (.int (32 : Int32)), (.int (own_hash p2 p3 p4 (0 : Int32))), (.int (4 : Int32))])) rfl rfl (hb hby d19_12)
  refine own_go st145 ?_
  refine own_go (B := T145.setTop (mkF m 18 #[.val (.ref a1), .val (.int p2), .val (.int p3), .val (.int p4), .val (.int (0 : Int32))] [(.int ((4 : Int32) * (((own_hash p2 p3 p4 (0 : Int32)).toUInt32 >>> ((22 : Int32) &&& 31).toUInt32).toInt32)))])) (fun t k => ?_) ?_
  · refine XS.isub X145.here hx rfl (hb hby d19_15) rfl ?_
    refine XS.iushr X145.here hx rfl (hb hby d19_16) rfl ?_
    refine XS.imul X145.here hx rfl (hb hby d19_17) rfl ?_
    exact k
  obtain ⟨fs, hr, hrun, hended, hW, hsame⟩ := X145.leave (v := some (.int ((4 : Int32) * (((own_hash p2 p3 p4 (0 : Int32)).toUInt32 >>> ((22 : Int32) &&& 31).toUInt32).toInt32)))) (fun h => by rw [Bd.returns] at h; cases h)
  refine ⟨_, _, ?_, hrun, hended, _, _, rfl, ?_, ⟨_, rfl⟩, hW, hsame.mono (by decide) (by decide)⟩
  · show Steps p.tables e below (T145.setTop (mkF m 18 #[.val (.ref a1), .val (.int p2), .val (.int p3), .val (.int p4), .val (.int (0 : Int32))] [(.int ((4 : Int32) * (((own_hash p2 p3 p4 (0 : Int32)).toUInt32 >>> ((22 : Int32) &&& 31).toUInt32).toInt32)))])) _
    exact retOut X145 hx Bd.returns rfl (Or.inl ⟨rfl, Or.inl rfl, _, rfl⟩) (hb hby d19_18) hr
  · show Qrm19 Z a1 p2 p3 p4 h0 n0 _ T145.heap _
    rw [e145]
    exact ⟨rfl, N144, rfl⟩
def frm18 (p2 : Int32) (p3 : Int32) (p4 : Int32) (cs : List Int32) : Int32 := (if (cs.getD (4 * own_e (own_hash p2 p3 p4 (0 : Int32))) 0) = p3 then (if (cs.getD (4 * own_e (own_hash p2 p3 p4 (0 : Int32)) + 1) 0) = p4 then (if (cs.getD (4 * own_e (own_hash p2 p3 p4 (0 : Int32)) + 2) 0) = ((0 : Int32) ||| p2) then (cs.getD (4 * own_e (own_hash p2 p3 p4 (0 : Int32)) + 3) 0) else (-1 : Int32)) else (-1 : Int32)) else (-1 : Int32))
def Qrm18 (Z : State) (a1 : Addr) (p2 : Int32) (p3 : Int32) (p4 : Int32) (b3 : Addr) (k3 : ClassId) (cs : List Int32) (h0 : Heap) (n0 : Nat) (v : Option Value) (h : Heap) (L : List Loc) : Prop := v = some (.int (frm18 p2 p3 p4 cs)) ∧ Fr n0 L ∧ h = h0
theorem efrm18 (m : MethodId) (x0 : Addr) (x1 : Int32) (x2 : Int32) (x3 : Int32) : entryFrame m #[(.ref x0), (.int x1), (.int x2), (.int x3), (.int (0 : Int32))] 7 = mkF m 0 #[.val (.ref x0), .val (.int x1), .val (.int x2), .val (.int x3), .val (.int (0 : Int32)), .unset, .unset] [] := by first | (simp [entryFrame, mkF, argsToLocals, Value.category]; done) | rfl
set_option maxRecDepth 65536 in
set_option maxHeartbeats 40000000 in
theorem rm18 (l : Launch) (Z : State) (a0 : Array Value) (hw : ∀ d ∈ tables_1, d.before a0 Z = true) (ws : List Jvm.Cond) (a1 : Addr) (p2 : Int32) (p3 : Int32) (p4 : Int32) (b3 : Addr) (k3 : ClassId) (cs : List Int32) (h0 : Heap) (n0 : Nat) (Z0 : n0 ≤ h0.size) (P0 : Exa Z h0 a1 OB) (P1 : Fld Z h0 a1 OB "cacheBits" "I" (.int (10 : Int32))) (P2 : Fld Z h0 a1 OB "cache" "[I" (.ref b3)) (P3 : Arv Z h0 b3 k3 .int (4096 : Int32) (own_I cs) (.int (0 : Int32))) :
    MetFree l (⟨OB, "cached", "(IIII)I"⟩ : MethodName) (head1 (Jvm.Cond.code (⟨OB, "cached", "(IIII)I"⟩ : MethodName) prog_103_method_27_code 7 (some .int) :: ws) ({ frames := 2, cells := 0, slots := 0, locals := 33 } : Room)) (fun a U => a = #[(.ref a1), (.int p2), (.int p3), (.int p4), (.int (0 : Int32))] ∧ Z.Warmed39 U.vm ∧ U.heap = h0) (fun _ _ _ _ _ => True) (fun _ U o U' => ∃ v L, o = .returned v ∧ Qrm18 Z a1 p2 p3 p4 b3 k3 cs h0 n0 v U'.heap L ∧ FrameEnd U o U' L ({ frames := 2, cells := 0, slots := 0, locals := 33 } : Room).cells ({ frames := 2, cells := 0, slots := 0, locals := 33 } : Room).slots) := by
  refine MetFree.of_bodySF (plainFor_of_name pn_0) hisR ?_
  intro p e s m args below meth c s₁ Bd hml0 hP hK
  obtain ⟨rfl, hZ, hh⟩ := hP
  have hx := Bd.exec
  have hby := Bd.bytes
  have hml : c.maxLocals = 7 := hml0
  have hown : s.vm.findClass OB = some m.cls := findClass_of_methodNamed Bd.named
  have hnm := (name_of_methodNamed Bd.named Bd.method).1
  have X0 : Stand p l e ({ frames := 2, cells := 0, slots := 0, locals := 33 } : Room) s m #[(.ref a1), (.int p2), (.int p3), (.int p4), (.int (0 : Int32))] below meth c s₁ [] 0 0 := Stand.of_body Bd
  have e0 : s₁.heap = h0 := by rw [← hh, Bd.state]; rfl
  have N0 := Fr.nil n0
  have K0 : Keep h0 h0 [] := Keep.refl h0 _
  refine own_go (B := s₁.setTop (mkF m 0 #[.val (.ref a1), .val (.int p2), .val (.int p3), .val (.int p4), .val (.int (0 : Int32)), .unset, .unset] [])) (fun t k => castTop (efrm18 m a1 p2 p3 p4) k) ?_
  refine own_go (B := s₁.setTop (mkF m 6 #[.val (.ref a1), .val (.int p2), .val (.int p3), .val (.int p4), .val (.int (0 : Int32)), .unset, .unset] [(.int (0 : Int32)), (.int p4), (.int p3), (.int p2), (.ref a1)])) (fun t k => ?_) ?_
  · refine XS.aloadN X0.here hx rfl (hb hby d18_0) rfl rfl ?_
    refine XS.iloadN X0.here hx rfl (hb hby d18_1) rfl ?_
    refine XS.iloadN X0.here hx rfl (hb hby d18_2) rfl ?_
    refine XS.iloadN X0.here hx rfl (hb hby d18_3) rfl ?_
    refine XS.iload X0.here hx rfl (hb hby d18_4) rfl ?_
    exact k
  obtain ⟨cq146, q146, q146'⟩ := P0.cell
  obtain ⟨_, _, ⟨T146, L146, k146, n146⟩, -, X146, ⟨Lc146, hQ146, l146, y146, z146⟩, st146⟩ := X0.privateBack hx (y := (⟨OB, "entry", "(IIII)I"⟩ : MethodName)) hown (mvT hZ (own_w hw 98 rfl)) (mvT hZ (own_w hw 99 rfl)) (own_selp (mvT hZ (own_w hw 50 rfl)) rfl (Cond.privateMethod_at (mvP hZ (own_w hw 100 rfl) (args := #[]))) (mvT hZ (own_w hw 99 rfl)) (by decide)) (Cond.privateMethod_at (mvP hZ (own_w hw 100 rfl) (args := #[]))) (mvT hZ (own_w hw 101 rfl)) (by decide) (backOf (W := 0) (rm19 l Z a0 hw [] a1 p2 p3 p4 h0 n0 Z0 P1) hZ (own_w hw 101 rfl) (own_w hw 5 rfl) (by decide) (by decide)) (g := (mkF m 6 #[.val (.ref a1), .val (.int p2), .val (.int p3), .val (.int p4), .val (.int (0 : Int32)), .unset, .unset] [(.int (0 : Int32)), (.int p4), (.int p3), (.int p2), (.ref a1)])) rfl (by rw [hml]; rfl) (Steps.refl _) (a := a1) (by rw [e0]; exact q146) q146' (argsL := [(.int p2), (.int p3), (.int p4), (.int (0 : Int32))]) (rest := []) (lenOf pd_0 rfl) rfl (by show 2 * 0 + _ ≤ _; exact Nat.le_of_eq rfl) (hb hby d18_6) (fun _ _ => ⟨rfl, e0, (by decide : 0 + 0 ≤ _), (by decide : 0 + 0 ≤ _)⟩)
  dsimp only [Pt.U, Pt.locs, Pt.cells, Pt.slots] at X146 l146 y146 z146 st146 hQ146
  subst l146 y146 z146
  obtain ⟨rfl, Nq146, e146⟩ := hQ146
  have N146 := Fr.app N0 Nq146
  refine own_go (B := T146.setTop (mkF m 9 #[.val (.ref a1), .val (.int p2), .val (.int p3), .val (.int p4), .val (.int (0 : Int32)), .unset, .unset] [(.int ((4 : Int32) * (((own_hash p2 p3 p4 (0 : Int32)).toUInt32 >>> ((22 : Int32) &&& 31).toUInt32).toInt32)))])) (fun t k => st146.trans k) ?_
  refine own_go (B := T146.setTop (mkF m 12 #[.val (.ref a1), .val (.int p2), .val (.int p3), .val (.int p4), .val (.int (0 : Int32)), .val (.int ((4 : Int32) * (((own_hash p2 p3 p4 (0 : Int32)).toUInt32 >>> ((22 : Int32) &&& 31).toUInt32).toInt32))), .unset] [(.ref a1)])) (fun t k => ?_) ?_
  · refine XS.istore X146.here hx rfl (hb hby d18_9) rfl (l' := #[.val (.ref a1), .val (.int p2), .val (.int p3), .val (.int p4), .val (.int (0 : Int32)), .val (.int ((4 : Int32) * (((own_hash p2 p3 p4 (0 : Int32)).toUInt32 >>> ((22 : Int32) &&& 31).toUInt32).toInt32))), .unset]) rfl ?_
    refine XS.aloadN X146.here hx rfl (hb hby d18_11) rfl rfl ?_
    exact k
  obtain ⟨T147, X147, e147, st147⟩ := getF X146 hx hZ hown (host := "") (Or.inl (own_w hw 43 rfl)) Via.refl e146 P2 (g := (mkF m 12 #[.val (.ref a1), .val (.int p2), .val (.int p3), .val (.int p4), .val (.int (0 : Int32)), .val (.int ((4 : Int32) * (((own_hash p2 p3 p4 (0 : Int32)).toUInt32 >>> ((22 : Int32) &&& 31).toUInt32).toInt32))), .unset] [(.ref a1)])) rfl rfl (hb hby d18_12)
  refine own_go st147 ?_
  refine own_go (B := T147.setTop (mkF m 17 #[.val (.ref a1), .val (.int p2), .val (.int p3), .val (.int p4), .val (.int (0 : Int32)), .val (.int ((4 : Int32) * (((own_hash p2 p3 p4 (0 : Int32)).toUInt32 >>> ((22 : Int32) &&& 31).toUInt32).toInt32))), .unset] [(.int ((4 : Int32) * (((own_hash p2 p3 p4 (0 : Int32)).toUInt32 >>> ((22 : Int32) &&& 31).toUInt32).toInt32))), (.ref b3)])) (fun t k => ?_) ?_
  · refine XS.iload X147.here hx rfl (hb hby d18_15) rfl ?_
    exact k
  obtain ⟨cl148, Ar148, q148, S148, M148, Ha148, G148⟩ := id P3
  have hin148 : ¬ (((4 : Int32) * (((own_hash p2 p3 p4 (0 : Int32)).toUInt32 >>> ((22 : Int32) &&& 31).toUInt32).toInt32)) < 0 ∨ cl148.slots.size ≤ (((4 : Int32) * (((own_hash p2 p3 p4 (0 : Int32)).toUInt32 >>> ((22 : Int32) &&& 31).toUInt32).toInt32))).toNatClampNeg) := inb_of S148 (own_jb (own_en_spec _).1 (m := 4096) rfl (own_lt4 (own_en_spec (own_hash p2 p3 p4 (0 : Int32))).2))
  refine own_go (X147.iaload hx (j := ((4 : Int32) * (((own_hash p2 p3 p4 (0 : Int32)).toUInt32 >>> ((22 : Int32) &&& 31).toUInt32).toInt32))) (v := (.int (cs.getD (4 * own_e (own_hash p2 p3 p4 (0 : Int32))) 0))) (by rw [e147]; exact Ar148.1) (State.isArrayOf_alike hZ.alike Ar148.2.1) Ar148.2.2 hin148 (Has.at Ha148 hin148 (own_getI2 _ (own_jn (own_en_spec _).1))) (g := (mkF m 17 #[.val (.ref a1), .val (.int p2), .val (.int p3), .val (.int p4), .val (.int (0 : Int32)), .val (.int ((4 : Int32) * (((own_hash p2 p3 p4 (0 : Int32)).toUInt32 >>> ((22 : Int32) &&& 31).toUInt32).toInt32))), .unset] [(.int ((4 : Int32) * (((own_hash p2 p3 p4 (0 : Int32)).toUInt32 >>> ((22 : Int32) &&& 31).toUInt32).toInt32))), (.ref b3)])) rfl rfl (hb hby d18_17)) ?_
  refine own_go (B := T147.setTop (mkF m 19 #[.val (.ref a1), .val (.int p2), .val (.int p3), .val (.int p4), .val (.int (0 : Int32)), .val (.int ((4 : Int32) * (((own_hash p2 p3 p4 (0 : Int32)).toUInt32 >>> ((22 : Int32) &&& 31).toUInt32).toInt32))), .unset] [(.int p3), (.int (cs.getD (4 * own_e (own_hash p2 p3 p4 (0 : Int32))) 0))])) (fun t k => ?_) ?_
  · refine XS.iloadN X147.here hx rfl (hb hby d18_18) rfl ?_
    exact k
  by_cases hc19_149 : (cs.getD (4 * own_e (own_hash p2 p3 p4 (0 : Int32))) 0) = p3
  · refine own_go (B := T147.setTop (mkF m 22 #[.val (.ref a1), .val (.int p2), .val (.int p3), .val (.int p4), .val (.int (0 : Int32)), .val (.int ((4 : Int32) * (((own_hash p2 p3 p4 (0 : Int32)).toUInt32 >>> ((22 : Int32) &&& 31).toUInt32).toInt32))), .unset] [])) (fun t k => ?_) ?_
    · refine XS.icmpNo X147.here hx rfl (hb hby d18_19) rfl (teq hc19_149).2 ?_
      exact k
    refine own_go (B := T147.setTop (mkF m 23 #[.val (.ref a1), .val (.int p2), .val (.int p3), .val (.int p4), .val (.int (0 : Int32)), .val (.int ((4 : Int32) * (((own_hash p2 p3 p4 (0 : Int32)).toUInt32 >>> ((22 : Int32) &&& 31).toUInt32).toInt32))), .unset] [(.ref a1)])) (fun t k => ?_) ?_
    · refine XS.aloadN X147.here hx rfl (hb hby d18_22) rfl rfl ?_
      exact k
    obtain ⟨T150, X150, e150, st150⟩ := getF X147 hx hZ hown (host := "") (Or.inl (own_w hw 43 rfl)) Via.refl e147 P2 (g := (mkF m 23 #[.val (.ref a1), .val (.int p2), .val (.int p3), .val (.int p4), .val (.int (0 : Int32)), .val (.int ((4 : Int32) * (((own_hash p2 p3 p4 (0 : Int32)).toUInt32 >>> ((22 : Int32) &&& 31).toUInt32).toInt32))), .unset] [(.ref a1)])) rfl rfl (hb hby d18_23)
    refine own_go st150 ?_
    refine own_go (B := T150.setTop (mkF m 30 #[.val (.ref a1), .val (.int p2), .val (.int p3), .val (.int p4), .val (.int (0 : Int32)), .val (.int ((4 : Int32) * (((own_hash p2 p3 p4 (0 : Int32)).toUInt32 >>> ((22 : Int32) &&& 31).toUInt32).toInt32))), .unset] [(.int (((4 : Int32) * (((own_hash p2 p3 p4 (0 : Int32)).toUInt32 >>> ((22 : Int32) &&& 31).toUInt32).toInt32)) + (1 : Int32))), (.ref b3)])) (fun t k => ?_) ?_
    · refine XS.iload X150.here hx rfl (hb hby d18_26) rfl ?_
      refine XS.iconst X150.here hx rfl (hb hby d18_28) ?_
      refine XS.iadd X150.here hx rfl (hb hby d18_29) rfl ?_
      exact k
    obtain ⟨cl151, Ar151, q151, S151, M151, Ha151, G151⟩ := id P3
    have hin151 : ¬ ((((4 : Int32) * (((own_hash p2 p3 p4 (0 : Int32)).toUInt32 >>> ((22 : Int32) &&& 31).toUInt32).toInt32)) + (1 : Int32)) < 0 ∨ cl151.slots.size ≤ ((((4 : Int32) * (((own_hash p2 p3 p4 (0 : Int32)).toUInt32 >>> ((22 : Int32) &&& 31).toUInt32).toInt32)) + (1 : Int32))).toNatClampNeg) := inb_of S151 (own_jb (own_ixc _ (1 : Int32) (4 * own_e (own_hash p2 p3 p4 (0 : Int32))) 1 (own_en_spec _).1 rfl (own_lt4 (own_en_spec (own_hash p2 p3 p4 (0 : Int32))).2) (by omega)) (m := 4096) rfl (own_lt4c (own_en_spec (own_hash p2 p3 p4 (0 : Int32))).2 (by omega)))
    refine own_go (X150.iaload hx (j := (((4 : Int32) * (((own_hash p2 p3 p4 (0 : Int32)).toUInt32 >>> ((22 : Int32) &&& 31).toUInt32).toInt32)) + (1 : Int32))) (v := (.int (cs.getD (4 * own_e (own_hash p2 p3 p4 (0 : Int32)) + 1) 0))) (by rw [e150]; exact Ar151.1) (State.isArrayOf_alike hZ.alike Ar151.2.1) Ar151.2.2 hin151 (Has.at Ha151 hin151 (own_getI2 _ (own_jn (own_ixc _ (1 : Int32) (4 * own_e (own_hash p2 p3 p4 (0 : Int32))) 1 (own_en_spec _).1 rfl (own_lt4 (own_en_spec (own_hash p2 p3 p4 (0 : Int32))).2) (by omega))))) (g := (mkF m 30 #[.val (.ref a1), .val (.int p2), .val (.int p3), .val (.int p4), .val (.int (0 : Int32)), .val (.int ((4 : Int32) * (((own_hash p2 p3 p4 (0 : Int32)).toUInt32 >>> ((22 : Int32) &&& 31).toUInt32).toInt32))), .unset] [(.int (((4 : Int32) * (((own_hash p2 p3 p4 (0 : Int32)).toUInt32 >>> ((22 : Int32) &&& 31).toUInt32).toInt32)) + (1 : Int32))), (.ref b3)])) rfl rfl (hb hby d18_30)) ?_
    refine own_go (B := T150.setTop (mkF m 32 #[.val (.ref a1), .val (.int p2), .val (.int p3), .val (.int p4), .val (.int (0 : Int32)), .val (.int ((4 : Int32) * (((own_hash p2 p3 p4 (0 : Int32)).toUInt32 >>> ((22 : Int32) &&& 31).toUInt32).toInt32))), .unset] [(.int p4), (.int (cs.getD (4 * own_e (own_hash p2 p3 p4 (0 : Int32)) + 1) 0))])) (fun t k => ?_) ?_
    · refine XS.iloadN X150.here hx rfl (hb hby d18_31) rfl ?_
      exact k
    by_cases hc32_152 : (cs.getD (4 * own_e (own_hash p2 p3 p4 (0 : Int32)) + 1) 0) = p4
    · refine own_go (B := T150.setTop (mkF m 35 #[.val (.ref a1), .val (.int p2), .val (.int p3), .val (.int p4), .val (.int (0 : Int32)), .val (.int ((4 : Int32) * (((own_hash p2 p3 p4 (0 : Int32)).toUInt32 >>> ((22 : Int32) &&& 31).toUInt32).toInt32))), .unset] [])) (fun t k => ?_) ?_
      · refine XS.icmpNo X150.here hx rfl (hb hby d18_32) rfl (teq hc32_152).2 ?_
        exact k
      refine own_go (B := T150.setTop (mkF m 36 #[.val (.ref a1), .val (.int p2), .val (.int p3), .val (.int p4), .val (.int (0 : Int32)), .val (.int ((4 : Int32) * (((own_hash p2 p3 p4 (0 : Int32)).toUInt32 >>> ((22 : Int32) &&& 31).toUInt32).toInt32))), .unset] [(.ref a1)])) (fun t k => ?_) ?_
      · refine XS.aloadN X150.here hx rfl (hb hby d18_35) rfl rfl ?_
        exact k
      obtain ⟨T153, X153, e153, st153⟩ := getF X150 hx hZ hown (host := "") (Or.inl (own_w hw 43 rfl)) Via.refl e150 P2 (g := (mkF m 36 #[.val (.ref a1), .val (.int p2), .val (.int p3), .val (.int p4), .val (.int (0 : Int32)), .val (.int ((4 : Int32) * (((own_hash p2 p3 p4 (0 : Int32)).toUInt32 >>> ((22 : Int32) &&& 31).toUInt32).toInt32))), .unset] [(.ref a1)])) rfl rfl (hb hby d18_36)
      refine own_go st153 ?_
      refine own_go (B := T153.setTop (mkF m 43 #[.val (.ref a1), .val (.int p2), .val (.int p3), .val (.int p4), .val (.int (0 : Int32)), .val (.int ((4 : Int32) * (((own_hash p2 p3 p4 (0 : Int32)).toUInt32 >>> ((22 : Int32) &&& 31).toUInt32).toInt32))), .unset] [(.int (((4 : Int32) * (((own_hash p2 p3 p4 (0 : Int32)).toUInt32 >>> ((22 : Int32) &&& 31).toUInt32).toInt32)) + (2 : Int32))), (.ref b3)])) (fun t k => ?_) ?_
      · refine XS.iload X153.here hx rfl (hb hby d18_39) rfl ?_
        refine XS.iconst X153.here hx rfl (hb hby d18_41) ?_
        refine XS.iadd X153.here hx rfl (hb hby d18_42) rfl ?_
        exact k
      obtain ⟨cl154, Ar154, q154, S154, M154, Ha154, G154⟩ := id P3
      have hin154 : ¬ ((((4 : Int32) * (((own_hash p2 p3 p4 (0 : Int32)).toUInt32 >>> ((22 : Int32) &&& 31).toUInt32).toInt32)) + (2 : Int32)) < 0 ∨ cl154.slots.size ≤ ((((4 : Int32) * (((own_hash p2 p3 p4 (0 : Int32)).toUInt32 >>> ((22 : Int32) &&& 31).toUInt32).toInt32)) + (2 : Int32))).toNatClampNeg) := inb_of S154 (own_jb (own_ixc _ (2 : Int32) (4 * own_e (own_hash p2 p3 p4 (0 : Int32))) 2 (own_en_spec _).1 rfl (own_lt4 (own_en_spec (own_hash p2 p3 p4 (0 : Int32))).2) (by omega)) (m := 4096) rfl (own_lt4c (own_en_spec (own_hash p2 p3 p4 (0 : Int32))).2 (by omega)))
      refine own_go (X153.iaload hx (j := (((4 : Int32) * (((own_hash p2 p3 p4 (0 : Int32)).toUInt32 >>> ((22 : Int32) &&& 31).toUInt32).toInt32)) + (2 : Int32))) (v := (.int (cs.getD (4 * own_e (own_hash p2 p3 p4 (0 : Int32)) + 2) 0))) (by rw [e153]; exact Ar154.1) (State.isArrayOf_alike hZ.alike Ar154.2.1) Ar154.2.2 hin154 (Has.at Ha154 hin154 (own_getI2 _ (own_jn (own_ixc _ (2 : Int32) (4 * own_e (own_hash p2 p3 p4 (0 : Int32))) 2 (own_en_spec _).1 rfl (own_lt4 (own_en_spec (own_hash p2 p3 p4 (0 : Int32))).2) (by omega))))) (g := (mkF m 43 #[.val (.ref a1), .val (.int p2), .val (.int p3), .val (.int p4), .val (.int (0 : Int32)), .val (.int ((4 : Int32) * (((own_hash p2 p3 p4 (0 : Int32)).toUInt32 >>> ((22 : Int32) &&& 31).toUInt32).toInt32))), .unset] [(.int (((4 : Int32) * (((own_hash p2 p3 p4 (0 : Int32)).toUInt32 >>> ((22 : Int32) &&& 31).toUInt32).toInt32)) + (2 : Int32))), (.ref b3)])) rfl rfl (hb hby d18_43)) ?_
      refine own_go (B := T153.setTop (mkF m 50 #[.val (.ref a1), .val (.int p2), .val (.int p3), .val (.int p4), .val (.int (0 : Int32)), .val (.int ((4 : Int32) * (((own_hash p2 p3 p4 (0 : Int32)).toUInt32 >>> ((22 : Int32) &&& 31).toUInt32).toInt32))), .unset] [(.int ((0 : Int32) ||| p2)), (.int (cs.getD (4 * own_e (own_hash p2 p3 p4 (0 : Int32)) + 2) 0))])) (fun t k => ?_) ?_
      · refine XS.iload X153.here hx rfl (hb hby d18_44) rfl ?_
        refine XS.iconst X153.here hx rfl (hb hby d18_46) ?_
        refine XS.ishl X153.here hx rfl (hb hby d18_47) rfl ?_
        refine XS.iloadN X153.here hx rfl (hb hby d18_48) rfl ?_
        refine XS.ior X153.here hx rfl (hb hby d18_49) rfl ?_
        exact k
      by_cases hc50_155 : (cs.getD (4 * own_e (own_hash p2 p3 p4 (0 : Int32)) + 2) 0) = ((0 : Int32) ||| p2)
      · refine own_go (B := T153.setTop (mkF m 53 #[.val (.ref a1), .val (.int p2), .val (.int p3), .val (.int p4), .val (.int (0 : Int32)), .val (.int ((4 : Int32) * (((own_hash p2 p3 p4 (0 : Int32)).toUInt32 >>> ((22 : Int32) &&& 31).toUInt32).toInt32))), .unset] [])) (fun t k => ?_) ?_
        · refine XS.icmpNo X153.here hx rfl (hb hby d18_50) rfl (teq hc50_155).2 ?_
          exact k
        refine own_go (B := T153.setTop (mkF m 66 #[.val (.ref a1), .val (.int p2), .val (.int p3), .val (.int p4), .val (.int (0 : Int32)), .val (.int ((4 : Int32) * (((own_hash p2 p3 p4 (0 : Int32)).toUInt32 >>> ((22 : Int32) &&& 31).toUInt32).toInt32))), .val (.int (1 : Int32))] [(.ref a1)])) (fun t k => ?_) ?_
        · refine XS.iconst X153.here hx rfl (hb hby d18_53) ?_
          refine XS.goto X153.here hx rfl (pc0 := 54) (pc' := 58) rfl (hb hby d18_54) (by decide) (by decide) ?_
          refine XS.istore X153.here hx rfl (hb hby d18_58) rfl (l' := #[.val (.ref a1), .val (.int p2), .val (.int p3), .val (.int p4), .val (.int (0 : Int32)), .val (.int ((4 : Int32) * (((own_hash p2 p3 p4 (0 : Int32)).toUInt32 >>> ((22 : Int32) &&& 31).toUInt32).toInt32))), .val (.int (1 : Int32))]) rfl ?_
          refine XS.iload X153.here hx rfl (hb hby d18_60) rfl ?_
          refine XS.ifNo X153.here hx rfl (hb hby d18_62) rfl ((if0 _ _).trans (feq (by decide : ¬ ((1 : Int32) = (0 : Int32)))).1) ?_
          refine XS.aloadN X153.here hx rfl (hb hby d18_65) rfl rfl ?_
          exact k
        obtain ⟨T157, X157, e157, st157⟩ := getF X153 hx hZ hown (host := "") (Or.inl (own_w hw 43 rfl)) Via.refl e153 P2 (g := (mkF m 66 #[.val (.ref a1), .val (.int p2), .val (.int p3), .val (.int p4), .val (.int (0 : Int32)), .val (.int ((4 : Int32) * (((own_hash p2 p3 p4 (0 : Int32)).toUInt32 >>> ((22 : Int32) &&& 31).toUInt32).toInt32))), .val (.int (1 : Int32))] [(.ref a1)])) rfl rfl (hb hby d18_66)
        refine own_go st157 ?_
        refine own_go (B := T157.setTop (mkF m 73 #[.val (.ref a1), .val (.int p2), .val (.int p3), .val (.int p4), .val (.int (0 : Int32)), .val (.int ((4 : Int32) * (((own_hash p2 p3 p4 (0 : Int32)).toUInt32 >>> ((22 : Int32) &&& 31).toUInt32).toInt32))), .val (.int (1 : Int32))] [(.int (((4 : Int32) * (((own_hash p2 p3 p4 (0 : Int32)).toUInt32 >>> ((22 : Int32) &&& 31).toUInt32).toInt32)) + (3 : Int32))), (.ref b3)])) (fun t k => ?_) ?_
        · refine XS.iload X157.here hx rfl (hb hby d18_69) rfl ?_
          refine XS.iconst X157.here hx rfl (hb hby d18_71) ?_
          refine XS.iadd X157.here hx rfl (hb hby d18_72) rfl ?_
          exact k
        obtain ⟨cl158, Ar158, q158, S158, M158, Ha158, G158⟩ := id P3
        have hin158 : ¬ ((((4 : Int32) * (((own_hash p2 p3 p4 (0 : Int32)).toUInt32 >>> ((22 : Int32) &&& 31).toUInt32).toInt32)) + (3 : Int32)) < 0 ∨ cl158.slots.size ≤ ((((4 : Int32) * (((own_hash p2 p3 p4 (0 : Int32)).toUInt32 >>> ((22 : Int32) &&& 31).toUInt32).toInt32)) + (3 : Int32))).toNatClampNeg) := inb_of S158 (own_jb (own_ixc _ (3 : Int32) (4 * own_e (own_hash p2 p3 p4 (0 : Int32))) 3 (own_en_spec _).1 rfl (own_lt4 (own_en_spec (own_hash p2 p3 p4 (0 : Int32))).2) (by omega)) (m := 4096) rfl (own_lt4c (own_en_spec (own_hash p2 p3 p4 (0 : Int32))).2 (by omega)))
        refine own_go (X157.iaload hx (j := (((4 : Int32) * (((own_hash p2 p3 p4 (0 : Int32)).toUInt32 >>> ((22 : Int32) &&& 31).toUInt32).toInt32)) + (3 : Int32))) (v := (.int (cs.getD (4 * own_e (own_hash p2 p3 p4 (0 : Int32)) + 3) 0))) (by rw [e157]; exact Ar158.1) (State.isArrayOf_alike hZ.alike Ar158.2.1) Ar158.2.2 hin158 (Has.at Ha158 hin158 (own_getI2 _ (own_jn (own_ixc _ (3 : Int32) (4 * own_e (own_hash p2 p3 p4 (0 : Int32))) 3 (own_en_spec _).1 rfl (own_lt4 (own_en_spec (own_hash p2 p3 p4 (0 : Int32))).2) (by omega))))) (g := (mkF m 73 #[.val (.ref a1), .val (.int p2), .val (.int p3), .val (.int p4), .val (.int (0 : Int32)), .val (.int ((4 : Int32) * (((own_hash p2 p3 p4 (0 : Int32)).toUInt32 >>> ((22 : Int32) &&& 31).toUInt32).toInt32))), .val (.int (1 : Int32))] [(.int (((4 : Int32) * (((own_hash p2 p3 p4 (0 : Int32)).toUInt32 >>> ((22 : Int32) &&& 31).toUInt32).toInt32)) + (3 : Int32))), (.ref b3)])) rfl rfl (hb hby d18_73)) ?_
        refine own_go (B := T157.setTop (mkF m 78 #[.val (.ref a1), .val (.int p2), .val (.int p3), .val (.int p4), .val (.int (0 : Int32)), .val (.int ((4 : Int32) * (((own_hash p2 p3 p4 (0 : Int32)).toUInt32 >>> ((22 : Int32) &&& 31).toUInt32).toInt32))), .val (.int (1 : Int32))] [(.int (cs.getD (4 * own_e (own_hash p2 p3 p4 (0 : Int32)) + 3) 0))])) (fun t k => ?_) ?_
        · refine XS.goto X157.here hx rfl (pc0 := 74) (pc' := 78) rfl (hb hby d18_74) (by decide) (by decide) ?_
          exact k
        obtain ⟨fs, hr, hrun, hended, hW, hsame⟩ := X157.leave (v := some (.int (cs.getD (4 * own_e (own_hash p2 p3 p4 (0 : Int32)) + 3) 0))) (fun h => by rw [Bd.returns] at h; cases h)
        refine ⟨_, _, ?_, hrun, hended, _, _, rfl, ?_, ⟨_, rfl⟩, hW, hsame.mono (by decide) (by decide)⟩
        · show Steps p.tables e below (T157.setTop (mkF m 78 #[.val (.ref a1), .val (.int p2), .val (.int p3), .val (.int p4), .val (.int (0 : Int32)), .val (.int ((4 : Int32) * (((own_hash p2 p3 p4 (0 : Int32)).toUInt32 >>> ((22 : Int32) &&& 31).toUInt32).toInt32))), .val (.int (1 : Int32))] [(.int (cs.getD (4 * own_e (own_hash p2 p3 p4 (0 : Int32)) + 3) 0))])) _
          exact retOut X157 hx Bd.returns rfl (Or.inl ⟨rfl, Or.inl rfl, _, rfl⟩) (hb hby d18_78) hr
        · show Qrm18 Z a1 p2 p3 p4 b3 k3 cs h0 n0 _ T157.heap _
          rw [e157]
          exact ⟨(by simp only [frm18, if_pos hc19_149, if_pos hc32_152, if_pos hc50_155]), N146, rfl⟩
      · refine own_go (B := T153.setTop (mkF m 57 #[.val (.ref a1), .val (.int p2), .val (.int p3), .val (.int p4), .val (.int (0 : Int32)), .val (.int ((4 : Int32) * (((own_hash p2 p3 p4 (0 : Int32)).toUInt32 >>> ((22 : Int32) &&& 31).toUInt32).toInt32))), .unset] [])) (fun t k => ?_) ?_
        · refine XS.icmpYes X153.here hx rfl (pc0 := 50) (pc' := 57) rfl (hb hby d18_50) rfl (feq hc50_155).2 (by decide) (by decide) ?_
          exact k
        refine own_go (B := T153.setTop (mkF m 78 #[.val (.ref a1), .val (.int p2), .val (.int p3), .val (.int p4), .val (.int (0 : Int32)), .val (.int ((4 : Int32) * (((own_hash p2 p3 p4 (0 : Int32)).toUInt32 >>> ((22 : Int32) &&& 31).toUInt32).toInt32))), .val (.int (0 : Int32))] [(.int (-1 : Int32))])) (fun t k => ?_) ?_
        · refine XS.iconst X153.here hx rfl (hb hby d18_57) ?_
          refine XS.istore X153.here hx rfl (hb hby d18_58) rfl (l' := #[.val (.ref a1), .val (.int p2), .val (.int p3), .val (.int p4), .val (.int (0 : Int32)), .val (.int ((4 : Int32) * (((own_hash p2 p3 p4 (0 : Int32)).toUInt32 >>> ((22 : Int32) &&& 31).toUInt32).toInt32))), .val (.int (0 : Int32))]) rfl ?_
          refine XS.iload X153.here hx rfl (hb hby d18_60) rfl ?_
          refine XS.ifYes X153.here hx rfl (pc0 := 62) (pc' := 77) rfl (hb hby d18_62) rfl ((if0 _ _).trans (teq (rfl : (0 : Int32) = (0 : Int32))).1) (by decide) (by decide) ?_
          refine XS.iconst X153.here hx rfl (hb hby d18_77) ?_
          exact k
        obtain ⟨fs, hr, hrun, hended, hW, hsame⟩ := X153.leave (v := some (.int (-1 : Int32))) (fun h => by rw [Bd.returns] at h; cases h)
        refine ⟨_, _, ?_, hrun, hended, _, _, rfl, ?_, ⟨_, rfl⟩, hW, hsame.mono (by decide) (by decide)⟩
        · show Steps p.tables e below (T153.setTop (mkF m 78 #[.val (.ref a1), .val (.int p2), .val (.int p3), .val (.int p4), .val (.int (0 : Int32)), .val (.int ((4 : Int32) * (((own_hash p2 p3 p4 (0 : Int32)).toUInt32 >>> ((22 : Int32) &&& 31).toUInt32).toInt32))), .val (.int (0 : Int32))] [(.int (-1 : Int32))])) _
          exact retOut X153 hx Bd.returns rfl (Or.inl ⟨rfl, Or.inl rfl, _, rfl⟩) (hb hby d18_78) hr
        · show Qrm18 Z a1 p2 p3 p4 b3 k3 cs h0 n0 _ T153.heap _
          rw [e153]
          exact ⟨(by simp only [frm18, if_pos hc19_149, if_pos hc32_152, if_neg hc50_155]), N146, rfl⟩
    · refine own_go (B := T150.setTop (mkF m 57 #[.val (.ref a1), .val (.int p2), .val (.int p3), .val (.int p4), .val (.int (0 : Int32)), .val (.int ((4 : Int32) * (((own_hash p2 p3 p4 (0 : Int32)).toUInt32 >>> ((22 : Int32) &&& 31).toUInt32).toInt32))), .unset] [])) (fun t k => ?_) ?_
      · refine XS.icmpYes X150.here hx rfl (pc0 := 32) (pc' := 57) rfl (hb hby d18_32) rfl (feq hc32_152).2 (by decide) (by decide) ?_
        exact k
      refine own_go (B := T150.setTop (mkF m 78 #[.val (.ref a1), .val (.int p2), .val (.int p3), .val (.int p4), .val (.int (0 : Int32)), .val (.int ((4 : Int32) * (((own_hash p2 p3 p4 (0 : Int32)).toUInt32 >>> ((22 : Int32) &&& 31).toUInt32).toInt32))), .val (.int (0 : Int32))] [(.int (-1 : Int32))])) (fun t k => ?_) ?_
      · refine XS.iconst X150.here hx rfl (hb hby d18_57) ?_
        refine XS.istore X150.here hx rfl (hb hby d18_58) rfl (l' := #[.val (.ref a1), .val (.int p2), .val (.int p3), .val (.int p4), .val (.int (0 : Int32)), .val (.int ((4 : Int32) * (((own_hash p2 p3 p4 (0 : Int32)).toUInt32 >>> ((22 : Int32) &&& 31).toUInt32).toInt32))), .val (.int (0 : Int32))]) rfl ?_
        refine XS.iload X150.here hx rfl (hb hby d18_60) rfl ?_
        refine XS.ifYes X150.here hx rfl (pc0 := 62) (pc' := 77) rfl (hb hby d18_62) rfl ((if0 _ _).trans (teq (rfl : (0 : Int32) = (0 : Int32))).1) (by decide) (by decide) ?_
        refine XS.iconst X150.here hx rfl (hb hby d18_77) ?_
        exact k
      obtain ⟨fs, hr, hrun, hended, hW, hsame⟩ := X150.leave (v := some (.int (-1 : Int32))) (fun h => by rw [Bd.returns] at h; cases h)
      refine ⟨_, _, ?_, hrun, hended, _, _, rfl, ?_, ⟨_, rfl⟩, hW, hsame.mono (by decide) (by decide)⟩
      · show Steps p.tables e below (T150.setTop (mkF m 78 #[.val (.ref a1), .val (.int p2), .val (.int p3), .val (.int p4), .val (.int (0 : Int32)), .val (.int ((4 : Int32) * (((own_hash p2 p3 p4 (0 : Int32)).toUInt32 >>> ((22 : Int32) &&& 31).toUInt32).toInt32))), .val (.int (0 : Int32))] [(.int (-1 : Int32))])) _
        exact retOut X150 hx Bd.returns rfl (Or.inl ⟨rfl, Or.inl rfl, _, rfl⟩) (hb hby d18_78) hr
      · show Qrm18 Z a1 p2 p3 p4 b3 k3 cs h0 n0 _ T150.heap _
        rw [e150]
        exact ⟨(by simp only [frm18, if_pos hc19_149, if_neg hc32_152]), N146, rfl⟩
  · refine own_go (B := T147.setTop (mkF m 57 #[.val (.ref a1), .val (.int p2), .val (.int p3), .val (.int p4), .val (.int (0 : Int32)), .val (.int ((4 : Int32) * (((own_hash p2 p3 p4 (0 : Int32)).toUInt32 >>> ((22 : Int32) &&& 31).toUInt32).toInt32))), .unset] [])) (fun t k => ?_) ?_
    · refine XS.icmpYes X147.here hx rfl (pc0 := 19) (pc' := 57) rfl (hb hby d18_19) rfl (feq hc19_149).2 (by decide) (by decide) ?_
      exact k
    refine own_go (B := T147.setTop (mkF m 78 #[.val (.ref a1), .val (.int p2), .val (.int p3), .val (.int p4), .val (.int (0 : Int32)), .val (.int ((4 : Int32) * (((own_hash p2 p3 p4 (0 : Int32)).toUInt32 >>> ((22 : Int32) &&& 31).toUInt32).toInt32))), .val (.int (0 : Int32))] [(.int (-1 : Int32))])) (fun t k => ?_) ?_
    · refine XS.iconst X147.here hx rfl (hb hby d18_57) ?_
      refine XS.istore X147.here hx rfl (hb hby d18_58) rfl (l' := #[.val (.ref a1), .val (.int p2), .val (.int p3), .val (.int p4), .val (.int (0 : Int32)), .val (.int ((4 : Int32) * (((own_hash p2 p3 p4 (0 : Int32)).toUInt32 >>> ((22 : Int32) &&& 31).toUInt32).toInt32))), .val (.int (0 : Int32))]) rfl ?_
      refine XS.iload X147.here hx rfl (hb hby d18_60) rfl ?_
      refine XS.ifYes X147.here hx rfl (pc0 := 62) (pc' := 77) rfl (hb hby d18_62) rfl ((if0 _ _).trans (teq (rfl : (0 : Int32) = (0 : Int32))).1) (by decide) (by decide) ?_
      refine XS.iconst X147.here hx rfl (hb hby d18_77) ?_
      exact k
    obtain ⟨fs, hr, hrun, hended, hW, hsame⟩ := X147.leave (v := some (.int (-1 : Int32))) (fun h => by rw [Bd.returns] at h; cases h)
    refine ⟨_, _, ?_, hrun, hended, _, _, rfl, ?_, ⟨_, rfl⟩, hW, hsame.mono (by decide) (by decide)⟩
    · show Steps p.tables e below (T147.setTop (mkF m 78 #[.val (.ref a1), .val (.int p2), .val (.int p3), .val (.int p4), .val (.int (0 : Int32)), .val (.int ((4 : Int32) * (((own_hash p2 p3 p4 (0 : Int32)).toUInt32 >>> ((22 : Int32) &&& 31).toUInt32).toInt32))), .val (.int (0 : Int32))] [(.int (-1 : Int32))])) _
      exact retOut X147 hx Bd.returns rfl (Or.inl ⟨rfl, Or.inl rfl, _, rfl⟩) (hb hby d18_78) hr
    · show Qrm18 Z a1 p2 p3 p4 b3 k3 cs h0 n0 _ T147.heap _
      rw [e147]
      exact ⟨(by simp only [frm18, if_neg hc19_149]), N146, rfl⟩
def Qrm24 (Z : State) (a1 : Addr) (p2 : Int32) (p3 : Int32) (p4 : Int32) (p6 : Int32) (b1 : Addr) (b2 : Addr) (b3 : Addr) (k1 : ClassId) (k2 : ClassId) (k3 : ClassId) (ns : List Int32) (bs : List Int32) (cs : List Int32) (sz : Int32) (cp : Int64) (n : Nat) (h0 : Heap) (n0 : Nat) (v : Option Value) (h : Heap) (L : List Loc) : Prop := v = none ∧ Fr n0 L ∧ Keep h0 h [a1, b3] ∧ Exa Z h a1 OB ∧ Fld Z h a1 OB "variableCount" "I" (.int (3 : Int32)) ∧ Fld Z h a1 OB "maxComputations" "J" (.long (9223372036854775807 : Int64)) ∧ Fld Z h a1 OB "nodes" "[I" (.ref b1) ∧ Fld Z h a1 OB "buckets" "[I" (.ref b2) ∧ Fld Z h a1 OB "cacheBits" "I" (.int (10 : Int32)) ∧ Fld Z h a1 OB "cache" "[I" (.ref b3) ∧ Fld Z h a1 OB "size" "I" (.int sz) ∧ Fld Z h a1 OB "computations" "J" (.long (cp + (1 : Int64))) ∧ Arv Z h b1 k1 .int (256 : Int32) (own_I ns) (.int (0 : Int32)) ∧ Arv Z h b2 k2 .int (64 : Int32) (own_I bs) (.int (0 : Int32)) ∧ Arv Z h b3 k3 .int (4096 : Int32) (own_I (own_put cs (4 * own_e (own_hash p2 p3 p4 (0 : Int32))) p3 p4 ((0 : Int32) ||| p2) p6)) (.int (0 : Int32))
theorem efrm24 (m : MethodId) (x0 : Addr) (x1 : Int32) (x2 : Int32) (x3 : Int32) (x5 : Int32) : entryFrame m #[(.ref x0), (.int x1), (.int x2), (.int x3), (.int (0 : Int32)), (.int x5)] 7 = mkF m 0 #[.val (.ref x0), .val (.int x1), .val (.int x2), .val (.int x3), .val (.int (0 : Int32)), .val (.int x5), .unset] [] := by first | (simp [entryFrame, mkF, argsToLocals, Value.category]; done) | rfl
set_option maxRecDepth 65536 in
set_option maxHeartbeats 40000000 in
theorem rm24 (l : Launch) (Z : State) (a0 : Array Value) (hw : ∀ d ∈ tables_1, d.before a0 Z = true) (ws : List Jvm.Cond) (a1 : Addr) (p2 : Int32) (p3 : Int32) (p4 : Int32) (p6 : Int32) (b1 : Addr) (b2 : Addr) (b3 : Addr) (k1 : ClassId) (k2 : ClassId) (k3 : ClassId) (ns : List Int32) (bs : List Int32) (cs : List Int32) (sz : Int32) (cp : Int64) (n : Nat) (h0 : Heap) (n0 : Nat) (Z0 : n0 ≤ h0.size) (P0 : Exa Z h0 a1 OB) (P1 : Fld Z h0 a1 OB "variableCount" "I" (.int (3 : Int32))) (P2 : Fld Z h0 a1 OB "maxComputations" "J" (.long (9223372036854775807 : Int64))) (P3 : Fld Z h0 a1 OB "nodes" "[I" (.ref b1)) (P4 : Fld Z h0 a1 OB "buckets" "[I" (.ref b2)) (P5 : Fld Z h0 a1 OB "cacheBits" "I" (.int (10 : Int32))) (P6 : Fld Z h0 a1 OB "cache" "[I" (.ref b3)) (P7 : Fld Z h0 a1 OB "size" "I" (.int sz)) (P8 : Fld Z h0 a1 OB "computations" "J" (.long cp)) (P9 : Arv Z h0 b1 k1 .int (256 : Int32) (own_I ns) (.int (0 : Int32))) (P10 : Arv Z h0 b2 k2 .int (64 : Int32) (own_I bs) (.int (0 : Int32))) (P11 : Arv Z h0 b3 k3 .int (4096 : Int32) (own_I cs) (.int (0 : Int32))) (g_a1 : n0 ≤ a1) (g_b3 : n0 ≤ b3) (ne_a1_b1 : a1 ≠ b1) (ne_a1_b2 : a1 ≠ b2) (ne_a1_b3 : a1 ≠ b3) (ne_b1_b2 : b1 ≠ b2) (ne_b1_b3 : b1 ≠ b3) (ne_b2_b3 : b2 ≠ b3) (qI : own_Inv ns bs cs n) (qs : sz.toInt = (n : Int)) (qc : 0 ≤ cp.toInt ∧ cp.toInt ≤ 1000) :
    MetFree l (⟨OB, "store", "(IIIII)V"⟩ : MethodName) (head1 (Jvm.Cond.code (⟨OB, "store", "(IIIII)V"⟩ : MethodName) prog_103_method_28_code 7 none :: ws) ({ frames := 2, cells := 0, slots := 0, locals := 33 } : Room)) (fun a U => a = #[(.ref a1), (.int p2), (.int p3), (.int p4), (.int (0 : Int32)), (.int p6)] ∧ Z.Warmed39 U.vm ∧ U.heap = h0) (fun _ _ _ _ _ => True) (fun _ U o U' => ∃ v L, o = .returned v ∧ Qrm24 Z a1 p2 p3 p4 p6 b1 b2 b3 k1 k2 k3 ns bs cs sz cp n h0 n0 v U'.heap L ∧ FrameEnd U o U' L ({ frames := 2, cells := 0, slots := 0, locals := 33 } : Room).cells ({ frames := 2, cells := 0, slots := 0, locals := 33 } : Room).slots) := by
  refine MetFree.of_bodySF (plainFor_of_name pn_0) hisR ?_
  intro p e s m args below meth c s₁ Bd hml0 hP hK
  obtain ⟨rfl, hZ, hh⟩ := hP
  have hx := Bd.exec
  have hby := Bd.bytes
  have hml : c.maxLocals = 7 := hml0
  have hown : s.vm.findClass OB = some m.cls := findClass_of_methodNamed Bd.named
  have hnm := (name_of_methodNamed Bd.named Bd.method).1
  have X0 : Stand p l e ({ frames := 2, cells := 0, slots := 0, locals := 33 } : Room) s m #[(.ref a1), (.int p2), (.int p3), (.int p4), (.int (0 : Int32)), (.int p6)] below meth c s₁ [] 0 0 := Stand.of_body Bd
  have e0 : s₁.heap = h0 := by rw [← hh, Bd.state]; rfl
  have N0 := Fr.nil n0
  have K0 : Keep h0 h0 [a1, b3] := Keep.refl h0 _
  refine own_go (B := s₁.setTop (mkF m 0 #[.val (.ref a1), .val (.int p2), .val (.int p3), .val (.int p4), .val (.int (0 : Int32)), .val (.int p6), .unset] [])) (fun t k => castTop (efrm24 m a1 p2 p3 p4 p6) k) ?_
  refine own_go (B := s₁.setTop (mkF m 1 #[.val (.ref a1), .val (.int p2), .val (.int p3), .val (.int p4), .val (.int (0 : Int32)), .val (.int p6), .unset] [(.ref a1)])) (fun t k => ?_) ?_
  · refine XS.aloadN X0.here hx rfl (hb hby d24_0) rfl rfl ?_
    exact k
  obtain ⟨T162, X162, e162, st162⟩ := getF X0 hx hZ hown (host := "") (Or.inl (own_w hw 122 rfl)) Via.refl e0 P8 (g := (mkF m 1 #[.val (.ref a1), .val (.int p2), .val (.int p3), .val (.int p4), .val (.int (0 : Int32)), .val (.int p6), .unset] [(.ref a1)])) rfl rfl (hb hby d24_1)
  refine own_go st162 ?_
  refine own_go (B := T162.setTop (mkF m 5 #[.val (.ref a1), .val (.int p2), .val (.int p3), .val (.int p4), .val (.int (0 : Int32)), .val (.int p6), .unset] [(.ref a1), (.long cp)])) (fun t k => ?_) ?_
  · refine XS.aloadN X162.here hx rfl (hb hby d24_4) rfl rfl ?_
    exact k
  obtain ⟨T163, X163, e163, st163⟩ := getF X162 hx hZ hown (host := "") (Or.inl (own_w hw 22 rfl)) Via.refl e162 P2 (g := (mkF m 5 #[.val (.ref a1), .val (.int p2), .val (.int p3), .val (.int p4), .val (.int (0 : Int32)), .val (.int p6), .unset] [(.ref a1), (.long cp)])) rfl rfl (hb hby d24_5)
  refine own_go st163 ?_
  refine own_go (B := T163.setTop (mkF m 9 #[.val (.ref a1), .val (.int p2), .val (.int p3), .val (.int p4), .val (.int (0 : Int32)), .val (.int p6), .unset] [(.int (lcmpW cp (9223372036854775807 : Int64)))])) (fun t k => ?_) ?_
  · refine XS.lcmp X163.here hx rfl (hb hby d24_8) rfl ?_
    exact k
  have hc9_164 : ¬ (cp = (9223372036854775807 : Int64)) := own_cp_ne qc
  refine own_go (B := T163.setTop (mkF m 31 #[.val (.ref a1), .val (.int p2), .val (.int p3), .val (.int p4), .val (.int (0 : Int32)), .val (.int p6), .unset] [(.ref a1), (.ref a1)])) (fun t k => ?_) ?_
  · refine XS.ifYes X163.here hx rfl (pc0 := 9) (pc' := 29) rfl (hb hby d24_9) rfl ((if0 _ _).trans (feq (mt (lw_eq _ _).mp hc9_164)).2) (by decide) (by decide) ?_
    refine XS.aloadN X163.here hx rfl (hb hby d24_29) rfl rfl ?_
    refine XS.dup X163.here hx rfl (hb hby d24_30) rfl rfl ?_
    exact k
  obtain ⟨T165, X165, e165, st165⟩ := getF X163 hx hZ hown (host := "") (Or.inl (own_w hw 122 rfl)) Via.refl e163 P8 (g := (mkF m 31 #[.val (.ref a1), .val (.int p2), .val (.int p3), .val (.int p4), .val (.int (0 : Int32)), .val (.int p6), .unset] [(.ref a1), (.ref a1)])) rfl rfl (hb hby d24_31)
  refine own_go st165 ?_
  refine own_go (B := T165.setTop (mkF m 36 #[.val (.ref a1), .val (.int p2), .val (.int p3), .val (.int p4), .val (.int (0 : Int32)), .val (.int p6), .unset] [(.long (cp + (1 : Int64))), (.ref a1)])) (fun t k => ?_) ?_
  · refine XS.lconst X165.here hx rfl (hb hby d24_34) ?_
    refine XS.ladd X165.here hx rfl (hb hby d24_35) rfl ?_
    exact k
  obtain ⟨T166, h166, X166, e166, W166, st166⟩ := putF X165 hx hZ hown (host := "") (Or.inl (own_w hw 122 rfl)) Via.refl e165 P8 P0 (Or.inl (own_w hw 123 rfl)) (own_w hw 4 rfl) (ty := .long) (by decide) rfl rfl (g := (mkF m 36 #[.val (.ref a1), .val (.int p2), .val (.int p3), .val (.int p4), .val (.int (0 : Int32)), .val (.int p6), .unset] [(.long (cp + (1 : Int64))), (.ref a1)])) rfl rfl (hb hby d24_36)
  have Q167 : Exa Z h166 a1 OB := P0.wr W166
  have Q168 : Fld Z h166 a1 OB "variableCount" "I" (.int (3 : Int32)) := P1.other W166 (Or.inr (slot_ne (Or.inr (own_w hw 14 rfl)) (Or.inl (own_w hw 123 rfl)) (by decide) (t := .int) (t' := .long) (by decide) (by decide)))
  have Q169 : Fld Z h166 a1 OB "maxComputations" "J" (.long (9223372036854775807 : Int64)) := P2.other W166 (Or.inr (slot_ne (Or.inr (own_w hw 23 rfl)) (Or.inl (own_w hw 123 rfl)) (by decide) (t := .long) (t' := .long) (by decide) (by decide)))
  have Q170 : Fld Z h166 a1 OB "nodes" "[I" (.ref b1) := P3.other W166 (Or.inr (slot_ne (Or.inl (own_w hw 25 rfl)) (Or.inl (own_w hw 123 rfl)) (by decide) (t := (.array .int)) (t' := .long) (by decide) (by decide)))
  have Q171 : Fld Z h166 a1 OB "buckets" "[I" (.ref b2) := P4.other W166 (Or.inr (slot_ne (Or.inl (own_w hw 36 rfl)) (Or.inl (own_w hw 123 rfl)) (by decide) (t := (.array .int)) (t' := .long) (by decide) (by decide)))
  have Q172 : Fld Z h166 a1 OB "cacheBits" "I" (.int (10 : Int32)) := P5.other W166 (Or.inr (slot_ne (Or.inl (own_w hw 42 rfl)) (Or.inl (own_w hw 123 rfl)) (by decide) (t := .int) (t' := .long) (by decide) (by decide)))
  have Q173 : Fld Z h166 a1 OB "cache" "[I" (.ref b3) := P6.other W166 (Or.inr (slot_ne (Or.inl (own_w hw 44 rfl)) (Or.inl (own_w hw 123 rfl)) (by decide) (t := (.array .int)) (t' := .long) (by decide) (by decide)))
  have Q174 : Fld Z h166 a1 OB "size" "I" (.int sz) := P7.other W166 (Or.inr (slot_ne (Or.inl (own_w hw 46 rfl)) (Or.inl (own_w hw 123 rfl)) (by decide) (t := .int) (t' := .long) (by decide) (by decide)))
  have Q175 : Arv Z h166 b1 k1 .int (256 : Int32) (own_I ns) (.int (0 : Int32)) := P9.other W166 (Ne.symm ne_a1_b1)
  have Q176 : Arv Z h166 b2 k2 .int (64 : Int32) (own_I bs) (.int (0 : Int32)) := P10.other W166 (Ne.symm ne_a1_b2)
  have Q177 : Arv Z h166 b3 k3 .int (4096 : Int32) (own_I cs) (.int (0 : Int32)) := P11.other W166 (Ne.symm ne_a1_b3)
  have U166 : Fld Z h166 a1 OB "computations" "J" (.long (cp + (1 : Int64))) := P8.same W166
  have Z166 : n0 ≤ h166.size := Nat.le_trans Z0 (Keep.of_wr W166).1
  have N166 := Fr.snoc X166 N0 g_a1
  have K166 := K0.wr W166 (Or.inl (List.mem_of_getElem? (i := 0) rfl))
  refine own_go st166 ?_
  refine own_go (B := T166.setTop (mkF m 40 #[.val (.ref a1), .val (.int p2), .val (.int p3), .val (.int p4), .val (.int (0 : Int32)), .val (.int p6), .unset] [(.ref a1)])) (fun t k => ?_) ?_
  · refine XS.aloadN X166.here hx rfl (hb hby d24_39) rfl rfl ?_
    exact k
  obtain ⟨T178, X178, e178, st178⟩ := getF X166 hx hZ hown (host := "") (Or.inl (own_w hw 122 rfl)) Via.refl e166 U166 (g := (mkF m 40 #[.val (.ref a1), .val (.int p2), .val (.int p3), .val (.int p4), .val (.int (0 : Int32)), .val (.int p6), .unset] [(.ref a1)])) rfl rfl (hb hby d24_40)
  refine own_go st178 ?_
  refine own_go (B := T178.setTop (mkF m 45 #[.val (.ref a1), .val (.int p2), .val (.int p3), .val (.int p4), .val (.int (0 : Int32)), .val (.int p6), .unset] [(.ref a1), (.long (1 : Int64)), (.long (cp + (1 : Int64)))])) (fun t k => ?_) ?_
  · refine XS.lconst X178.here hx rfl (hb hby d24_43) ?_
    refine XS.aloadN X178.here hx rfl (hb hby d24_44) rfl rfl ?_
    exact k
  obtain ⟨T179, X179, e179, st179⟩ := getF X178 hx hZ hown (host := "") (Or.inl (own_w hw 41 rfl)) Via.refl e178 Q172 (g := (mkF m 45 #[.val (.ref a1), .val (.int p2), .val (.int p3), .val (.int p4), .val (.int (0 : Int32)), .val (.int p6), .unset] [(.ref a1), (.long (1 : Int64)), (.long (cp + (1 : Int64)))])) rfl rfl (hb hby d24_45)
  refine own_go st179 ?_
  refine own_go (B := T179.setTop (mkF m 50 #[.val (.ref a1), .val (.int p2), .val (.int p3), .val (.int p4), .val (.int (0 : Int32)), .val (.int p6), .unset] [(.int (lcmpW (cp + (1 : Int64)) ((1 : Int64) <<< ((10 : Int32) &&& 0x3f).toInt64)))])) (fun t k => ?_) ?_
  · refine XS.lshl X179.here hx rfl (hb hby d24_48) rfl ?_
    refine XS.lcmp X179.here hx rfl (hb hby d24_49) rfl ?_
    exact k
  have hc50_180 : ¬ (((1 : Int64) <<< ((10 : Int32) &&& 0x3f).toInt64) < (cp + (1 : Int64))) := own_cp_small qc
  refine own_go (B := T179.setTop (mkF m 72 #[.val (.ref a1), .val (.int p2), .val (.int p3), .val (.int p4), .val (.int (0 : Int32)), .val (.int p6), .unset] [(.int (0 : Int32)), (.int p4), (.int p3), (.int p2), (.ref a1)])) (fun t k => ?_) ?_
  · refine XS.ifYes X179.here hx rfl (pc0 := 50) (pc' := 66) rfl (hb hby d24_50) rfl ((if0 _ _).trans (flt (mt (lw_gt _ _).mp hc50_180)).2.2.2) (by decide) (by decide) ?_
    refine XS.aloadN X179.here hx rfl (hb hby d24_66) rfl rfl ?_
    refine XS.iloadN X179.here hx rfl (hb hby d24_67) rfl ?_
    refine XS.iloadN X179.here hx rfl (hb hby d24_68) rfl ?_
    refine XS.iloadN X179.here hx rfl (hb hby d24_69) rfl ?_
    refine XS.iload X179.here hx rfl (hb hby d24_70) rfl ?_
    exact k
  obtain ⟨cq181, q181, q181'⟩ := Q167.cell
  obtain ⟨_, _, ⟨T181, L181, k181, n181⟩, -, X181, ⟨Lc181, hQ181, l181, y181, z181⟩, st181⟩ := X179.privateBack hx (y := (⟨OB, "entry", "(IIII)I"⟩ : MethodName)) hown (mvT hZ (own_w hw 98 rfl)) (mvT hZ (own_w hw 99 rfl)) (own_selp (mvT hZ (own_w hw 50 rfl)) rfl (Cond.privateMethod_at (mvP hZ (own_w hw 100 rfl) (args := #[]))) (mvT hZ (own_w hw 99 rfl)) (by decide)) (Cond.privateMethod_at (mvP hZ (own_w hw 100 rfl) (args := #[]))) (mvT hZ (own_w hw 101 rfl)) (by decide) (backOf (W := 0) (rm19 l Z a0 hw [] a1 p2 p3 p4 h166 n0 Z166 Q172) hZ (own_w hw 101 rfl) (own_w hw 5 rfl) (by decide) (by decide)) (g := (mkF m 72 #[.val (.ref a1), .val (.int p2), .val (.int p3), .val (.int p4), .val (.int (0 : Int32)), .val (.int p6), .unset] [(.int (0 : Int32)), (.int p4), (.int p3), (.int p2), (.ref a1)])) rfl (by rw [hml]; rfl) (Steps.refl _) (a := a1) (by rw [e179]; exact q181) q181' (argsL := [(.int p2), (.int p3), (.int p4), (.int (0 : Int32))]) (rest := []) (lenOf pd_0 rfl) rfl (by show 2 * 0 + _ ≤ _; exact Nat.le_of_eq rfl) (hb hby d24_72) (fun _ _ => ⟨rfl, e179, (by decide : 0 + 0 ≤ _), (by decide : 0 + 0 ≤ _)⟩)
  dsimp only [Pt.U, Pt.locs, Pt.cells, Pt.slots] at X181 l181 y181 z181 st181 hQ181
  subst l181 y181 z181
  obtain ⟨rfl, Nq181, e181⟩ := hQ181
  have N181 := Fr.app N166 Nq181
  refine own_go (B := T181.setTop (mkF m 75 #[.val (.ref a1), .val (.int p2), .val (.int p3), .val (.int p4), .val (.int (0 : Int32)), .val (.int p6), .unset] [(.int ((4 : Int32) * (((own_hash p2 p3 p4 (0 : Int32)).toUInt32 >>> ((22 : Int32) &&& 31).toUInt32).toInt32)))])) (fun t k => st181.trans k) ?_
  refine own_go (B := T181.setTop (mkF m 78 #[.val (.ref a1), .val (.int p2), .val (.int p3), .val (.int p4), .val (.int (0 : Int32)), .val (.int p6), .val (.int ((4 : Int32) * (((own_hash p2 p3 p4 (0 : Int32)).toUInt32 >>> ((22 : Int32) &&& 31).toUInt32).toInt32)))] [(.ref a1)])) (fun t k => ?_) ?_
  · refine XS.istore X181.here hx rfl (hb hby d24_75) rfl (l' := #[.val (.ref a1), .val (.int p2), .val (.int p3), .val (.int p4), .val (.int (0 : Int32)), .val (.int p6), .val (.int ((4 : Int32) * (((own_hash p2 p3 p4 (0 : Int32)).toUInt32 >>> ((22 : Int32) &&& 31).toUInt32).toInt32)))]) rfl ?_
    refine XS.aloadN X181.here hx rfl (hb hby d24_77) rfl rfl ?_
    exact k
  obtain ⟨T182, X182, e182, st182⟩ := getF X181 hx hZ hown (host := "") (Or.inl (own_w hw 43 rfl)) Via.refl e181 Q173 (g := (mkF m 78 #[.val (.ref a1), .val (.int p2), .val (.int p3), .val (.int p4), .val (.int (0 : Int32)), .val (.int p6), .val (.int ((4 : Int32) * (((own_hash p2 p3 p4 (0 : Int32)).toUInt32 >>> ((22 : Int32) &&& 31).toUInt32).toInt32)))] [(.ref a1)])) rfl rfl (hb hby d24_78)
  refine own_go st182 ?_
  refine own_go (B := T182.setTop (mkF m 84 #[.val (.ref a1), .val (.int p2), .val (.int p3), .val (.int p4), .val (.int (0 : Int32)), .val (.int p6), .val (.int ((4 : Int32) * (((own_hash p2 p3 p4 (0 : Int32)).toUInt32 >>> ((22 : Int32) &&& 31).toUInt32).toInt32)))] [(.int p3), (.int ((4 : Int32) * (((own_hash p2 p3 p4 (0 : Int32)).toUInt32 >>> ((22 : Int32) &&& 31).toUInt32).toInt32))), (.ref b3)])) (fun t k => ?_) ?_
  · refine XS.iload X182.here hx rfl (hb hby d24_81) rfl ?_
    refine XS.iloadN X182.here hx rfl (hb hby d24_83) rfl ?_
    exact k
  obtain ⟨cl183, Ar183, q183, S183, M183, Ha183, G183⟩ := Q177
  have hin183 : ¬ (((4 : Int32) * (((own_hash p2 p3 p4 (0 : Int32)).toUInt32 >>> ((22 : Int32) &&& 31).toUInt32).toInt32)) < 0 ∨ cl183.slots.size ≤ (((4 : Int32) * (((own_hash p2 p3 p4 (0 : Int32)).toUInt32 >>> ((22 : Int32) &&& 31).toUInt32).toInt32))).toNatClampNeg) := inb_of S183 (own_jb (own_en_spec _).1 (m := 4096) rfl (own_lt4 (own_en_spec (own_hash p2 p3 p4 (0 : Int32))).2))
  obtain ⟨T183, h183, X183, e183, W183, st183⟩ := stI X182 hx hZ e182 Ar183 (j := ((4 : Int32) * (((own_hash p2 p3 p4 (0 : Int32)).toUInt32 >>> ((22 : Int32) &&& 31).toUInt32).toInt32))) hin183 (g := (mkF m 84 #[.val (.ref a1), .val (.int p2), .val (.int p3), .val (.int p4), .val (.int (0 : Int32)), .val (.int p6), .val (.int ((4 : Int32) * (((own_hash p2 p3 p4 (0 : Int32)).toUInt32 >>> ((22 : Int32) &&& 31).toUInt32).toInt32)))] [(.int p3), (.int ((4 : Int32) * (((own_hash p2 p3 p4 (0 : Int32)).toUInt32 >>> ((22 : Int32) &&& 31).toUInt32).toInt32))), (.ref b3)])) rfl rfl (hb hby d24_84)
  have Q184 : Exa Z h183 a1 OB := Q167.wr W183
  have Q185 : Fld Z h183 a1 OB "variableCount" "I" (.int (3 : Int32)) := Q168.other W183 (Or.inl ne_a1_b3)
  have Q186 : Fld Z h183 a1 OB "maxComputations" "J" (.long (9223372036854775807 : Int64)) := Q169.other W183 (Or.inl ne_a1_b3)
  have Q187 : Fld Z h183 a1 OB "nodes" "[I" (.ref b1) := Q170.other W183 (Or.inl ne_a1_b3)
  have Q188 : Fld Z h183 a1 OB "buckets" "[I" (.ref b2) := Q171.other W183 (Or.inl ne_a1_b3)
  have Q189 : Fld Z h183 a1 OB "cacheBits" "I" (.int (10 : Int32)) := Q172.other W183 (Or.inl ne_a1_b3)
  have Q190 : Fld Z h183 a1 OB "cache" "[I" (.ref b3) := Q173.other W183 (Or.inl ne_a1_b3)
  have Q191 : Fld Z h183 a1 OB "size" "I" (.int sz) := Q174.other W183 (Or.inl ne_a1_b3)
  have Q192 : Arv Z h183 b1 k1 .int (256 : Int32) (own_I ns) (.int (0 : Int32)) := Q175.other W183 ne_b1_b3
  have Q193 : Arv Z h183 b2 k2 .int (64 : Int32) (own_I bs) (.int (0 : Int32)) := Q176.other W183 ne_b2_b3
  have Q194 : Fld Z h183 a1 OB "computations" "J" (.long (cp + (1 : Int64))) := U166.other W183 (Or.inl ne_a1_b3)
  have U183 : Arv Z h183 b3 k3 .int (4096 : Int32) (own_I (cs.set (4 * own_e (own_hash p2 p3 p4 (0 : Int32))) p3)) (.int (0 : Int32)) := own_arvI (Arv.set Ar183 q183 S183 M183 Ha183 G183 rfl W183 (4 * own_e (own_hash p2 p3 p4 (0 : Int32))) (own_jn (own_en_spec _).1) (by simp only [own_lenI, List.length_set]; rw [qI.2.2.1]; exact own_lt4 (own_en_spec (own_hash p2 p3 p4 (0 : Int32))).2))
  have Z183 : n0 ≤ h183.size := Nat.le_trans Z166 (Keep.of_wr W183).1
  have N183 := Fr.snoc X183 N181 g_b3
  have K183 := K166.wr W183 (Or.inl (List.mem_of_getElem? (i := 1) rfl))
  refine own_go st183 ?_
  refine own_go (B := T183.setTop (mkF m 86 #[.val (.ref a1), .val (.int p2), .val (.int p3), .val (.int p4), .val (.int (0 : Int32)), .val (.int p6), .val (.int ((4 : Int32) * (((own_hash p2 p3 p4 (0 : Int32)).toUInt32 >>> ((22 : Int32) &&& 31).toUInt32).toInt32)))] [(.ref a1)])) (fun t k => ?_) ?_
  · refine XS.aloadN X183.here hx rfl (hb hby d24_85) rfl rfl ?_
    exact k
  obtain ⟨T195, X195, e195, st195⟩ := getF X183 hx hZ hown (host := "") (Or.inl (own_w hw 43 rfl)) Via.refl e183 Q190 (g := (mkF m 86 #[.val (.ref a1), .val (.int p2), .val (.int p3), .val (.int p4), .val (.int (0 : Int32)), .val (.int p6), .val (.int ((4 : Int32) * (((own_hash p2 p3 p4 (0 : Int32)).toUInt32 >>> ((22 : Int32) &&& 31).toUInt32).toInt32)))] [(.ref a1)])) rfl rfl (hb hby d24_86)
  refine own_go st195 ?_
  refine own_go (B := T195.setTop (mkF m 94 #[.val (.ref a1), .val (.int p2), .val (.int p3), .val (.int p4), .val (.int (0 : Int32)), .val (.int p6), .val (.int ((4 : Int32) * (((own_hash p2 p3 p4 (0 : Int32)).toUInt32 >>> ((22 : Int32) &&& 31).toUInt32).toInt32)))] [(.int p4), (.int (((4 : Int32) * (((own_hash p2 p3 p4 (0 : Int32)).toUInt32 >>> ((22 : Int32) &&& 31).toUInt32).toInt32)) + (1 : Int32))), (.ref b3)])) (fun t k => ?_) ?_
  · refine XS.iload X195.here hx rfl (hb hby d24_89) rfl ?_
    refine XS.iconst X195.here hx rfl (hb hby d24_91) ?_
    refine XS.iadd X195.here hx rfl (hb hby d24_92) rfl ?_
    refine XS.iloadN X195.here hx rfl (hb hby d24_93) rfl ?_
    exact k
  obtain ⟨cl196, Ar196, q196, S196, M196, Ha196, G196⟩ := U183
  have hin196 : ¬ ((((4 : Int32) * (((own_hash p2 p3 p4 (0 : Int32)).toUInt32 >>> ((22 : Int32) &&& 31).toUInt32).toInt32)) + (1 : Int32)) < 0 ∨ cl196.slots.size ≤ ((((4 : Int32) * (((own_hash p2 p3 p4 (0 : Int32)).toUInt32 >>> ((22 : Int32) &&& 31).toUInt32).toInt32)) + (1 : Int32))).toNatClampNeg) := inb_of S196 (own_jb (own_ixc _ (1 : Int32) (4 * own_e (own_hash p2 p3 p4 (0 : Int32))) 1 (own_en_spec _).1 rfl (own_lt4 (own_en_spec (own_hash p2 p3 p4 (0 : Int32))).2) (by omega)) (m := 4096) rfl (own_lt4c (own_en_spec (own_hash p2 p3 p4 (0 : Int32))).2 (by omega)))
  obtain ⟨T196, h196, X196, e196, W196, st196⟩ := stI X195 hx hZ e195 Ar196 (j := (((4 : Int32) * (((own_hash p2 p3 p4 (0 : Int32)).toUInt32 >>> ((22 : Int32) &&& 31).toUInt32).toInt32)) + (1 : Int32))) hin196 (g := (mkF m 94 #[.val (.ref a1), .val (.int p2), .val (.int p3), .val (.int p4), .val (.int (0 : Int32)), .val (.int p6), .val (.int ((4 : Int32) * (((own_hash p2 p3 p4 (0 : Int32)).toUInt32 >>> ((22 : Int32) &&& 31).toUInt32).toInt32)))] [(.int p4), (.int (((4 : Int32) * (((own_hash p2 p3 p4 (0 : Int32)).toUInt32 >>> ((22 : Int32) &&& 31).toUInt32).toInt32)) + (1 : Int32))), (.ref b3)])) rfl rfl (hb hby d24_94)
  have Q197 : Exa Z h196 a1 OB := Q184.wr W196
  have Q198 : Fld Z h196 a1 OB "variableCount" "I" (.int (3 : Int32)) := Q185.other W196 (Or.inl ne_a1_b3)
  have Q199 : Fld Z h196 a1 OB "maxComputations" "J" (.long (9223372036854775807 : Int64)) := Q186.other W196 (Or.inl ne_a1_b3)
  have Q200 : Fld Z h196 a1 OB "nodes" "[I" (.ref b1) := Q187.other W196 (Or.inl ne_a1_b3)
  have Q201 : Fld Z h196 a1 OB "buckets" "[I" (.ref b2) := Q188.other W196 (Or.inl ne_a1_b3)
  have Q202 : Fld Z h196 a1 OB "cacheBits" "I" (.int (10 : Int32)) := Q189.other W196 (Or.inl ne_a1_b3)
  have Q203 : Fld Z h196 a1 OB "cache" "[I" (.ref b3) := Q190.other W196 (Or.inl ne_a1_b3)
  have Q204 : Fld Z h196 a1 OB "size" "I" (.int sz) := Q191.other W196 (Or.inl ne_a1_b3)
  have Q205 : Arv Z h196 b1 k1 .int (256 : Int32) (own_I ns) (.int (0 : Int32)) := Q192.other W196 ne_b1_b3
  have Q206 : Arv Z h196 b2 k2 .int (64 : Int32) (own_I bs) (.int (0 : Int32)) := Q193.other W196 ne_b2_b3
  have Q207 : Fld Z h196 a1 OB "computations" "J" (.long (cp + (1 : Int64))) := Q194.other W196 (Or.inl ne_a1_b3)
  have U196 : Arv Z h196 b3 k3 .int (4096 : Int32) (own_I ((cs.set (4 * own_e (own_hash p2 p3 p4 (0 : Int32))) p3).set (4 * own_e (own_hash p2 p3 p4 (0 : Int32)) + 1) p4)) (.int (0 : Int32)) := own_arvI (Arv.set Ar196 q196 S196 M196 Ha196 G196 rfl W196 (4 * own_e (own_hash p2 p3 p4 (0 : Int32)) + 1) (own_jn (own_ixc _ (1 : Int32) (4 * own_e (own_hash p2 p3 p4 (0 : Int32))) 1 (own_en_spec _).1 rfl (own_lt4 (own_en_spec (own_hash p2 p3 p4 (0 : Int32))).2) (by omega))) (by simp only [own_lenI, List.length_set]; rw [qI.2.2.1]; exact own_lt4c (own_en_spec (own_hash p2 p3 p4 (0 : Int32))).2 (by omega)))
  have Z196 : n0 ≤ h196.size := Nat.le_trans Z183 (Keep.of_wr W196).1
  have N196 := Fr.snoc X196 N183 g_b3
  have K196 := K183.wr W196 (Or.inl (List.mem_of_getElem? (i := 1) rfl))
  refine own_go st196 ?_
  refine own_go (B := T196.setTop (mkF m 96 #[.val (.ref a1), .val (.int p2), .val (.int p3), .val (.int p4), .val (.int (0 : Int32)), .val (.int p6), .val (.int ((4 : Int32) * (((own_hash p2 p3 p4 (0 : Int32)).toUInt32 >>> ((22 : Int32) &&& 31).toUInt32).toInt32)))] [(.ref a1)])) (fun t k => ?_) ?_
  · refine XS.aloadN X196.here hx rfl (hb hby d24_95) rfl rfl ?_
    exact k
  obtain ⟨T208, X208, e208, st208⟩ := getF X196 hx hZ hown (host := "") (Or.inl (own_w hw 43 rfl)) Via.refl e196 Q203 (g := (mkF m 96 #[.val (.ref a1), .val (.int p2), .val (.int p3), .val (.int p4), .val (.int (0 : Int32)), .val (.int p6), .val (.int ((4 : Int32) * (((own_hash p2 p3 p4 (0 : Int32)).toUInt32 >>> ((22 : Int32) &&& 31).toUInt32).toInt32)))] [(.ref a1)])) rfl rfl (hb hby d24_96)
  refine own_go st208 ?_
  refine own_go (B := T208.setTop (mkF m 109 #[.val (.ref a1), .val (.int p2), .val (.int p3), .val (.int p4), .val (.int (0 : Int32)), .val (.int p6), .val (.int ((4 : Int32) * (((own_hash p2 p3 p4 (0 : Int32)).toUInt32 >>> ((22 : Int32) &&& 31).toUInt32).toInt32)))] [(.int ((0 : Int32) ||| p2)), (.int (((4 : Int32) * (((own_hash p2 p3 p4 (0 : Int32)).toUInt32 >>> ((22 : Int32) &&& 31).toUInt32).toInt32)) + (2 : Int32))), (.ref b3)])) (fun t k => ?_) ?_
  · refine XS.iload X208.here hx rfl (hb hby d24_99) rfl ?_
    refine XS.iconst X208.here hx rfl (hb hby d24_101) ?_
    refine XS.iadd X208.here hx rfl (hb hby d24_102) rfl ?_
    refine XS.iload X208.here hx rfl (hb hby d24_103) rfl ?_
    refine XS.iconst X208.here hx rfl (hb hby d24_105) ?_
    refine XS.ishl X208.here hx rfl (hb hby d24_106) rfl ?_
    refine XS.iloadN X208.here hx rfl (hb hby d24_107) rfl ?_
    refine XS.ior X208.here hx rfl (hb hby d24_108) rfl ?_
    exact k
  obtain ⟨cl209, Ar209, q209, S209, M209, Ha209, G209⟩ := U196
  have hin209 : ¬ ((((4 : Int32) * (((own_hash p2 p3 p4 (0 : Int32)).toUInt32 >>> ((22 : Int32) &&& 31).toUInt32).toInt32)) + (2 : Int32)) < 0 ∨ cl209.slots.size ≤ ((((4 : Int32) * (((own_hash p2 p3 p4 (0 : Int32)).toUInt32 >>> ((22 : Int32) &&& 31).toUInt32).toInt32)) + (2 : Int32))).toNatClampNeg) := inb_of S209 (own_jb (own_ixc _ (2 : Int32) (4 * own_e (own_hash p2 p3 p4 (0 : Int32))) 2 (own_en_spec _).1 rfl (own_lt4 (own_en_spec (own_hash p2 p3 p4 (0 : Int32))).2) (by omega)) (m := 4096) rfl (own_lt4c (own_en_spec (own_hash p2 p3 p4 (0 : Int32))).2 (by omega)))
  obtain ⟨T209, h209, X209, e209, W209, st209⟩ := stI X208 hx hZ e208 Ar209 (j := (((4 : Int32) * (((own_hash p2 p3 p4 (0 : Int32)).toUInt32 >>> ((22 : Int32) &&& 31).toUInt32).toInt32)) + (2 : Int32))) hin209 (g := (mkF m 109 #[.val (.ref a1), .val (.int p2), .val (.int p3), .val (.int p4), .val (.int (0 : Int32)), .val (.int p6), .val (.int ((4 : Int32) * (((own_hash p2 p3 p4 (0 : Int32)).toUInt32 >>> ((22 : Int32) &&& 31).toUInt32).toInt32)))] [(.int ((0 : Int32) ||| p2)), (.int (((4 : Int32) * (((own_hash p2 p3 p4 (0 : Int32)).toUInt32 >>> ((22 : Int32) &&& 31).toUInt32).toInt32)) + (2 : Int32))), (.ref b3)])) rfl rfl (hb hby d24_109)
  have Q210 : Exa Z h209 a1 OB := Q197.wr W209
  have Q211 : Fld Z h209 a1 OB "variableCount" "I" (.int (3 : Int32)) := Q198.other W209 (Or.inl ne_a1_b3)
  have Q212 : Fld Z h209 a1 OB "maxComputations" "J" (.long (9223372036854775807 : Int64)) := Q199.other W209 (Or.inl ne_a1_b3)
  have Q213 : Fld Z h209 a1 OB "nodes" "[I" (.ref b1) := Q200.other W209 (Or.inl ne_a1_b3)
  have Q214 : Fld Z h209 a1 OB "buckets" "[I" (.ref b2) := Q201.other W209 (Or.inl ne_a1_b3)
  have Q215 : Fld Z h209 a1 OB "cacheBits" "I" (.int (10 : Int32)) := Q202.other W209 (Or.inl ne_a1_b3)
  have Q216 : Fld Z h209 a1 OB "cache" "[I" (.ref b3) := Q203.other W209 (Or.inl ne_a1_b3)
  have Q217 : Fld Z h209 a1 OB "size" "I" (.int sz) := Q204.other W209 (Or.inl ne_a1_b3)
  have Q218 : Arv Z h209 b1 k1 .int (256 : Int32) (own_I ns) (.int (0 : Int32)) := Q205.other W209 ne_b1_b3
  have Q219 : Arv Z h209 b2 k2 .int (64 : Int32) (own_I bs) (.int (0 : Int32)) := Q206.other W209 ne_b2_b3
  have Q220 : Fld Z h209 a1 OB "computations" "J" (.long (cp + (1 : Int64))) := Q207.other W209 (Or.inl ne_a1_b3)
  have U209 : Arv Z h209 b3 k3 .int (4096 : Int32) (own_I (((cs.set (4 * own_e (own_hash p2 p3 p4 (0 : Int32))) p3).set (4 * own_e (own_hash p2 p3 p4 (0 : Int32)) + 1) p4).set (4 * own_e (own_hash p2 p3 p4 (0 : Int32)) + 2) ((0 : Int32) ||| p2))) (.int (0 : Int32)) := own_arvI (Arv.set Ar209 q209 S209 M209 Ha209 G209 rfl W209 (4 * own_e (own_hash p2 p3 p4 (0 : Int32)) + 2) (own_jn (own_ixc _ (2 : Int32) (4 * own_e (own_hash p2 p3 p4 (0 : Int32))) 2 (own_en_spec _).1 rfl (own_lt4 (own_en_spec (own_hash p2 p3 p4 (0 : Int32))).2) (by omega))) (by simp only [own_lenI, List.length_set]; rw [qI.2.2.1]; exact own_lt4c (own_en_spec (own_hash p2 p3 p4 (0 : Int32))).2 (by omega)))
  have Z209 : n0 ≤ h209.size := Nat.le_trans Z196 (Keep.of_wr W209).1
  have N209 := Fr.snoc X209 N196 g_b3
  have K209 := K196.wr W209 (Or.inl (List.mem_of_getElem? (i := 1) rfl))
  refine own_go st209 ?_
  refine own_go (B := T209.setTop (mkF m 111 #[.val (.ref a1), .val (.int p2), .val (.int p3), .val (.int p4), .val (.int (0 : Int32)), .val (.int p6), .val (.int ((4 : Int32) * (((own_hash p2 p3 p4 (0 : Int32)).toUInt32 >>> ((22 : Int32) &&& 31).toUInt32).toInt32)))] [(.ref a1)])) (fun t k => ?_) ?_
  · refine XS.aloadN X209.here hx rfl (hb hby d24_110) rfl rfl ?_
    exact k
  obtain ⟨T221, X221, e221, st221⟩ := getF X209 hx hZ hown (host := "") (Or.inl (own_w hw 43 rfl)) Via.refl e209 Q216 (g := (mkF m 111 #[.val (.ref a1), .val (.int p2), .val (.int p3), .val (.int p4), .val (.int (0 : Int32)), .val (.int p6), .val (.int ((4 : Int32) * (((own_hash p2 p3 p4 (0 : Int32)).toUInt32 >>> ((22 : Int32) &&& 31).toUInt32).toInt32)))] [(.ref a1)])) rfl rfl (hb hby d24_111)
  refine own_go st221 ?_
  refine own_go (B := T221.setTop (mkF m 120 #[.val (.ref a1), .val (.int p2), .val (.int p3), .val (.int p4), .val (.int (0 : Int32)), .val (.int p6), .val (.int ((4 : Int32) * (((own_hash p2 p3 p4 (0 : Int32)).toUInt32 >>> ((22 : Int32) &&& 31).toUInt32).toInt32)))] [(.int p6), (.int (((4 : Int32) * (((own_hash p2 p3 p4 (0 : Int32)).toUInt32 >>> ((22 : Int32) &&& 31).toUInt32).toInt32)) + (3 : Int32))), (.ref b3)])) (fun t k => ?_) ?_
  · refine XS.iload X221.here hx rfl (hb hby d24_114) rfl ?_
    refine XS.iconst X221.here hx rfl (hb hby d24_116) ?_
    refine XS.iadd X221.here hx rfl (hb hby d24_117) rfl ?_
    refine XS.iload X221.here hx rfl (hb hby d24_118) rfl ?_
    exact k
  obtain ⟨cl222, Ar222, q222, S222, M222, Ha222, G222⟩ := U209
  have hin222 : ¬ ((((4 : Int32) * (((own_hash p2 p3 p4 (0 : Int32)).toUInt32 >>> ((22 : Int32) &&& 31).toUInt32).toInt32)) + (3 : Int32)) < 0 ∨ cl222.slots.size ≤ ((((4 : Int32) * (((own_hash p2 p3 p4 (0 : Int32)).toUInt32 >>> ((22 : Int32) &&& 31).toUInt32).toInt32)) + (3 : Int32))).toNatClampNeg) := inb_of S222 (own_jb (own_ixc _ (3 : Int32) (4 * own_e (own_hash p2 p3 p4 (0 : Int32))) 3 (own_en_spec _).1 rfl (own_lt4 (own_en_spec (own_hash p2 p3 p4 (0 : Int32))).2) (by omega)) (m := 4096) rfl (own_lt4c (own_en_spec (own_hash p2 p3 p4 (0 : Int32))).2 (by omega)))
  obtain ⟨T222, h222, X222, e222, W222, st222⟩ := stI X221 hx hZ e221 Ar222 (j := (((4 : Int32) * (((own_hash p2 p3 p4 (0 : Int32)).toUInt32 >>> ((22 : Int32) &&& 31).toUInt32).toInt32)) + (3 : Int32))) hin222 (g := (mkF m 120 #[.val (.ref a1), .val (.int p2), .val (.int p3), .val (.int p4), .val (.int (0 : Int32)), .val (.int p6), .val (.int ((4 : Int32) * (((own_hash p2 p3 p4 (0 : Int32)).toUInt32 >>> ((22 : Int32) &&& 31).toUInt32).toInt32)))] [(.int p6), (.int (((4 : Int32) * (((own_hash p2 p3 p4 (0 : Int32)).toUInt32 >>> ((22 : Int32) &&& 31).toUInt32).toInt32)) + (3 : Int32))), (.ref b3)])) rfl rfl (hb hby d24_120)
  have Q223 : Exa Z h222 a1 OB := Q210.wr W222
  have Q224 : Fld Z h222 a1 OB "variableCount" "I" (.int (3 : Int32)) := Q211.other W222 (Or.inl ne_a1_b3)
  have Q225 : Fld Z h222 a1 OB "maxComputations" "J" (.long (9223372036854775807 : Int64)) := Q212.other W222 (Or.inl ne_a1_b3)
  have Q226 : Fld Z h222 a1 OB "nodes" "[I" (.ref b1) := Q213.other W222 (Or.inl ne_a1_b3)
  have Q227 : Fld Z h222 a1 OB "buckets" "[I" (.ref b2) := Q214.other W222 (Or.inl ne_a1_b3)
  have Q228 : Fld Z h222 a1 OB "cacheBits" "I" (.int (10 : Int32)) := Q215.other W222 (Or.inl ne_a1_b3)
  have Q229 : Fld Z h222 a1 OB "cache" "[I" (.ref b3) := Q216.other W222 (Or.inl ne_a1_b3)
  have Q230 : Fld Z h222 a1 OB "size" "I" (.int sz) := Q217.other W222 (Or.inl ne_a1_b3)
  have Q231 : Arv Z h222 b1 k1 .int (256 : Int32) (own_I ns) (.int (0 : Int32)) := Q218.other W222 ne_b1_b3
  have Q232 : Arv Z h222 b2 k2 .int (64 : Int32) (own_I bs) (.int (0 : Int32)) := Q219.other W222 ne_b2_b3
  have Q233 : Fld Z h222 a1 OB "computations" "J" (.long (cp + (1 : Int64))) := Q220.other W222 (Or.inl ne_a1_b3)
  have U222 : Arv Z h222 b3 k3 .int (4096 : Int32) (own_I ((((cs.set (4 * own_e (own_hash p2 p3 p4 (0 : Int32))) p3).set (4 * own_e (own_hash p2 p3 p4 (0 : Int32)) + 1) p4).set (4 * own_e (own_hash p2 p3 p4 (0 : Int32)) + 2) ((0 : Int32) ||| p2)).set (4 * own_e (own_hash p2 p3 p4 (0 : Int32)) + 3) p6)) (.int (0 : Int32)) := own_arvI (Arv.set Ar222 q222 S222 M222 Ha222 G222 rfl W222 (4 * own_e (own_hash p2 p3 p4 (0 : Int32)) + 3) (own_jn (own_ixc _ (3 : Int32) (4 * own_e (own_hash p2 p3 p4 (0 : Int32))) 3 (own_en_spec _).1 rfl (own_lt4 (own_en_spec (own_hash p2 p3 p4 (0 : Int32))).2) (by omega))) (by simp only [own_lenI, List.length_set]; rw [qI.2.2.1]; exact own_lt4c (own_en_spec (own_hash p2 p3 p4 (0 : Int32))).2 (by omega)))
  have Z222 : n0 ≤ h222.size := Nat.le_trans Z209 (Keep.of_wr W222).1
  have N222 := Fr.snoc X222 N209 g_b3
  have K222 := K209.wr W222 (Or.inl (List.mem_of_getElem? (i := 1) rfl))
  refine own_go st222 ?_
  obtain ⟨fs, hr, hrun, hended, hW, hsame⟩ := X222.leave (v := none) (fun _ => rfl)
  refine ⟨_, _, ?_, hrun, hended, _, _, rfl, ?_, ⟨_, rfl⟩, hW, hsame.mono (by decide) (by decide)⟩
  · show Steps p.tables e below (T222.setTop (mkF m 121 #[.val (.ref a1), .val (.int p2), .val (.int p3), .val (.int p4), .val (.int (0 : Int32)), .val (.int p6), .val (.int ((4 : Int32) * (((own_hash p2 p3 p4 (0 : Int32)).toUInt32 >>> ((22 : Int32) &&& 31).toUInt32).toInt32)))] [])) _
    exact X222.returnOut hx Bd.returns (hb hby d24_121) hr
  · show Qrm24 Z a1 p2 p3 p4 p6 b1 b2 b3 k1 k2 k3 ns bs cs sz cp n h0 n0 _ T222.heap _
    rw [e222]
    exact ⟨rfl, N222, K222, Q223, Q224, Q225, Q226, Q227, Q228, Q229, Q230, Q233, Q231, Q232, U222⟩
def own_term (p1 p2 p3 : Int32) : Int32 := (if p1 = (0 : Int32) then (if p2 = (0 : Int32) then p2 else (if p2 = p3 then p2 else (if p2 = (1 : Int32) then p3 else (-1 : Int32)))) else (if p1 = (1 : Int32) then (if p2 = (1 : Int32) then (1 : Int32) else (if p3 = (1 : Int32) then (1 : Int32) else (if p2 = (0 : Int32) then p3 else (if p2 = p3 then p3 else (-1 : Int32))))) else (if p1 = (5 : Int32) then (if p2 = (0 : Int32) then (0 : Int32) else (if p3 = (1 : Int32) then (0 : Int32) else (if p2 = p3 then (0 : Int32) else (if p3 = (0 : Int32) then p2 else (-1 : Int32))))) else (if p2 = p3 then (0 : Int32) else (if p2 = (0 : Int32) then p3 else (-1 : Int32))))))
def Qrm16 (Z : State) (p1 : Int32) (p2 : Int32) (p3 : Int32) (h0 : Heap) (n0 : Nat) (v : Option Value) (h : Heap) (L : List Loc) : Prop := v = some (.int (own_term p1 p2 p3)) ∧ Fr n0 L ∧ h = h0
theorem efrm16 (m : MethodId) (x0 : Int32) (x1 : Int32) (x2 : Int32) : entryFrame m #[(.int x0), (.int x1), (.int x2)] 4 = mkF m 0 #[.val (.int x0), .val (.int x1), .val (.int x2), .unset] [] := by first | (simp [entryFrame, mkF, argsToLocals, Value.category]; done) | rfl
set_option maxRecDepth 65536 in
set_option maxHeartbeats 40000000 in
theorem rm16 (l : Launch) (Z : State) (a0 : Array Value) (hw : ∀ d ∈ tables_1, d.before a0 Z = true) (ws : List Jvm.Cond) (p1 : Int32) (p2 : Int32) (p3 : Int32) (h0 : Heap) (n0 : Nat) (Z0 : n0 ≤ h0.size)  :
    MetFree l (⟨OB, "terminal", "(III)I"⟩ : MethodName) (head1 (Jvm.Cond.code (⟨OB, "terminal", "(III)I"⟩ : MethodName) prog_103_method_20_code 4 (some .int) :: ws) ({ frames := 0, cells := 0, slots := 0, locals := 0 } : Room)) (fun a U => a = #[(.int p1), (.int p2), (.int p3)] ∧ Z.Warmed39 U.vm ∧ U.heap = h0) (fun _ _ _ _ _ => True) (fun _ U o U' => ∃ v L, o = .returned v ∧ Qrm16 Z p1 p2 p3 h0 n0 v U'.heap L ∧ FrameEnd U o U' L ({ frames := 0, cells := 0, slots := 0, locals := 0 } : Room).cells ({ frames := 0, cells := 0, slots := 0, locals := 0 } : Room).slots) := by
  refine MetFree.of_bodySF (plainFor_of_name pn_0) hisR ?_
  intro p e s m args below meth c s₁ Bd hml0 hP hK
  obtain ⟨rfl, hZ, hh⟩ := hP
  have hx := Bd.exec
  have hby := Bd.bytes
  have hml : c.maxLocals = 4 := hml0
  have hown : s.vm.findClass OB = some m.cls := findClass_of_methodNamed Bd.named
  have hnm := (name_of_methodNamed Bd.named Bd.method).1
  have X0 : Stand p l e ({ frames := 0, cells := 0, slots := 0, locals := 0 } : Room) s m #[(.int p1), (.int p2), (.int p3)] below meth c s₁ [] 0 0 := Stand.of_body Bd
  have e0 : s₁.heap = h0 := by rw [← hh, Bd.state]; rfl
  have N0 := Fr.nil n0
  have K0 : Keep h0 h0 [] := Keep.refl h0 _
  refine own_go (B := s₁.setTop (mkF m 0 #[.val (.int p1), .val (.int p2), .val (.int p3), .unset] [])) (fun t k => castTop (efrm16 m p1 p2 p3) k) ?_
  refine own_go (B := s₁.setTop (mkF m 3 #[.val (.int p1), .val (.int p2), .val (.int p3), .val (.int (-1 : Int32))] [(.int p1)])) (fun t k => ?_) ?_
  · refine XS.iconst X0.here hx rfl (hb hby d16_0) ?_
    refine XS.istoreN X0.here hx rfl (hb hby d16_1) rfl (l' := #[.val (.int p1), .val (.int p2), .val (.int p3), .val (.int (-1 : Int32))]) rfl ?_
    refine XS.iloadN X0.here hx rfl (hb hby d16_2) rfl ?_
    exact k
  refine own_go (B := s₁.setTop (mkF m 113 #[.val (.int p1), .val (.int p2), .val (.int p3), .val (.int (if p1 = (0 : Int32) then (if p2 = (0 : Int32) then p2 else (if p2 = p3 then p2 else (if p2 = (1 : Int32) then p3 else (-1 : Int32)))) else (if p1 = (1 : Int32) then (if p2 = (1 : Int32) then (1 : Int32) else (if p3 = (1 : Int32) then (1 : Int32) else (if p2 = (0 : Int32) then p3 else (if p2 = p3 then p3 else (-1 : Int32))))) else (if p1 = (5 : Int32) then (if p2 = (0 : Int32) then (0 : Int32) else (if p3 = (1 : Int32) then (0 : Int32) else (if p2 = p3 then (0 : Int32) else (if p3 = (0 : Int32) then p2 else (-1 : Int32))))) else (if p2 = p3 then (0 : Int32) else (if p2 = (0 : Int32) then p3 else (-1 : Int32)))))))] [])) (fun t k => ?_) ?_
  · by_cases hc3_234 : p1 = (0 : Int32)
    · show Steps p.tables e below (s₁.setTop (mkF m 3 #[.val (.int p1), .val (.int p2), .val (.int p3), .val (.int (-1 : Int32))] [(.int p1)])) _
      refine XS.ifNo X0.here hx rfl (hb hby d16_3) rfl ((if0 _ _).trans (teq hc3_234).2) ?_
      refine XS.iloadN X0.here hx rfl (hb hby d16_6) rfl ?_
      by_cases hc7_235 : p2 = (0 : Int32)
      · show Steps p.tables e below (s₁.setTop (mkF m 7 #[.val (.int p1), .val (.int p2), .val (.int p3), .val (.int (-1 : Int32))] [(.int p2)])) _
        refine XS.ifYes X0.here hx rfl (pc0 := 7) (pc' := 15) rfl (hb hby d16_7) rfl ((if0 _ _).trans (teq hc7_235).1) (by decide) (by decide) ?_
        refine XS.iloadN X0.here hx rfl (hb hby d16_15) rfl ?_
        refine XS.istoreN X0.here hx rfl (hb hby d16_16) rfl (l' := #[.val (.int p1), .val (.int p2), .val (.int p3), .val (.int p2)]) rfl ?_
        refine XS.goto X0.here hx rfl (pc0 := 17) (pc' := 113) rfl (hb hby d16_17) (by decide) (by decide) ?_
        show Steps p.tables e below (s₁.setTop (mkF m 113 #[.val (.int p1), .val (.int p2), .val (.int p3), .val (.int p2)] [])) _
        exact castTop (by first | (simp only [if_pos hc3_234, if_pos hc7_235]; done) | rfl) k
      · show Steps p.tables e below (s₁.setTop (mkF m 7 #[.val (.int p1), .val (.int p2), .val (.int p3), .val (.int (-1 : Int32))] [(.int p2)])) _
        refine XS.ifNo X0.here hx rfl (hb hby d16_7) rfl ((if0 _ _).trans (feq hc7_235).1) ?_
        refine XS.iloadN X0.here hx rfl (hb hby d16_10) rfl ?_
        refine XS.iloadN X0.here hx rfl (hb hby d16_11) rfl ?_
        by_cases hc12_236 : p2 = p3
        · show Steps p.tables e below (s₁.setTop (mkF m 12 #[.val (.int p1), .val (.int p2), .val (.int p3), .val (.int (-1 : Int32))] [(.int p3), (.int p2)])) _
          refine XS.icmpNo X0.here hx rfl (hb hby d16_12) rfl (teq hc12_236).2 ?_
          refine XS.iloadN X0.here hx rfl (hb hby d16_15) rfl ?_
          refine XS.istoreN X0.here hx rfl (hb hby d16_16) rfl (l' := #[.val (.int p1), .val (.int p2), .val (.int p3), .val (.int p2)]) rfl ?_
          refine XS.goto X0.here hx rfl (pc0 := 17) (pc' := 113) rfl (hb hby d16_17) (by decide) (by decide) ?_
          show Steps p.tables e below (s₁.setTop (mkF m 113 #[.val (.int p1), .val (.int p2), .val (.int p3), .val (.int p2)] [])) _
          exact castTop (by first | (simp only [if_pos hc3_234, if_neg hc7_235, if_pos hc12_236]; done) | rfl) k
        · show Steps p.tables e below (s₁.setTop (mkF m 12 #[.val (.int p1), .val (.int p2), .val (.int p3), .val (.int (-1 : Int32))] [(.int p3), (.int p2)])) _
          refine XS.icmpYes X0.here hx rfl (pc0 := 12) (pc' := 20) rfl (hb hby d16_12) rfl (feq hc12_236).2 (by decide) (by decide) ?_
          refine XS.iloadN X0.here hx rfl (hb hby d16_20) rfl ?_
          refine XS.iconst X0.here hx rfl (hb hby d16_21) ?_
          by_cases hc22_237 : p2 = (1 : Int32)
          · show Steps p.tables e below (s₁.setTop (mkF m 22 #[.val (.int p1), .val (.int p2), .val (.int p3), .val (.int (-1 : Int32))] [(.int (1 : Int32)), (.int p2)])) _
            refine XS.icmpNo X0.here hx rfl (hb hby d16_22) rfl (teq hc22_237).2 ?_
            refine XS.iloadN X0.here hx rfl (hb hby d16_25) rfl ?_
            refine XS.istoreN X0.here hx rfl (hb hby d16_26) rfl (l' := #[.val (.int p1), .val (.int p2), .val (.int p3), .val (.int p3)]) rfl ?_
            refine XS.goto X0.here hx rfl (pc0 := 27) (pc' := 113) rfl (hb hby d16_27) (by decide) (by decide) ?_
            show Steps p.tables e below (s₁.setTop (mkF m 113 #[.val (.int p1), .val (.int p2), .val (.int p3), .val (.int p3)] [])) _
            exact castTop (by first | (simp only [if_pos hc3_234, if_neg hc7_235, if_neg hc12_236, if_pos hc22_237]; done) | rfl) k
          · show Steps p.tables e below (s₁.setTop (mkF m 22 #[.val (.int p1), .val (.int p2), .val (.int p3), .val (.int (-1 : Int32))] [(.int (1 : Int32)), (.int p2)])) _
            refine XS.icmpYes X0.here hx rfl (pc0 := 22) (pc' := 113) rfl (hb hby d16_22) rfl (feq hc22_237).2 (by decide) (by decide) ?_
            show Steps p.tables e below (s₁.setTop (mkF m 113 #[.val (.int p1), .val (.int p2), .val (.int p3), .val (.int (-1 : Int32))] [])) _
            exact castTop (by first | (simp only [if_pos hc3_234, if_neg hc7_235, if_neg hc12_236, if_neg hc22_237]; done) | rfl) k
    · show Steps p.tables e below (s₁.setTop (mkF m 3 #[.val (.int p1), .val (.int p2), .val (.int p3), .val (.int (-1 : Int32))] [(.int p1)])) _
      refine XS.ifYes X0.here hx rfl (pc0 := 3) (pc' := 30) rfl (hb hby d16_3) rfl ((if0 _ _).trans (feq hc3_234).2) (by decide) (by decide) ?_
      refine XS.iloadN X0.here hx rfl (hb hby d16_30) rfl ?_
      refine XS.iconst X0.here hx rfl (hb hby d16_31) ?_
      by_cases hc32_238 : p1 = (1 : Int32)
      · show Steps p.tables e below (s₁.setTop (mkF m 32 #[.val (.int p1), .val (.int p2), .val (.int p3), .val (.int (-1 : Int32))] [(.int (1 : Int32)), (.int p1)])) _
        refine XS.icmpNo X0.here hx rfl (hb hby d16_32) rfl (teq hc32_238).2 ?_
        refine XS.iloadN X0.here hx rfl (hb hby d16_35) rfl ?_
        refine XS.iconst X0.here hx rfl (hb hby d16_36) ?_
        by_cases hc37_239 : p2 = (1 : Int32)
        · show Steps p.tables e below (s₁.setTop (mkF m 37 #[.val (.int p1), .val (.int p2), .val (.int p3), .val (.int (-1 : Int32))] [(.int (1 : Int32)), (.int p2)])) _
          refine XS.icmpYes X0.here hx rfl (pc0 := 37) (pc' := 45) rfl (hb hby d16_37) rfl (teq hc37_239).1 (by decide) (by decide) ?_
          refine XS.iconst X0.here hx rfl (hb hby d16_45) ?_
          refine XS.istoreN X0.here hx rfl (hb hby d16_46) rfl (l' := #[.val (.int p1), .val (.int p2), .val (.int p3), .val (.int (1 : Int32))]) rfl ?_
          refine XS.goto X0.here hx rfl (pc0 := 47) (pc' := 113) rfl (hb hby d16_47) (by decide) (by decide) ?_
          show Steps p.tables e below (s₁.setTop (mkF m 113 #[.val (.int p1), .val (.int p2), .val (.int p3), .val (.int (1 : Int32))] [])) _
          exact castTop (by first | (simp only [if_neg hc3_234, if_pos hc32_238, if_pos hc37_239]; done) | rfl) k
        · show Steps p.tables e below (s₁.setTop (mkF m 37 #[.val (.int p1), .val (.int p2), .val (.int p3), .val (.int (-1 : Int32))] [(.int (1 : Int32)), (.int p2)])) _
          refine XS.icmpNo X0.here hx rfl (hb hby d16_37) rfl (feq hc37_239).1 ?_
          refine XS.iloadN X0.here hx rfl (hb hby d16_40) rfl ?_
          refine XS.iconst X0.here hx rfl (hb hby d16_41) ?_
          by_cases hc42_240 : p3 = (1 : Int32)
          · show Steps p.tables e below (s₁.setTop (mkF m 42 #[.val (.int p1), .val (.int p2), .val (.int p3), .val (.int (-1 : Int32))] [(.int (1 : Int32)), (.int p3)])) _
            refine XS.icmpNo X0.here hx rfl (hb hby d16_42) rfl (teq hc42_240).2 ?_
            refine XS.iconst X0.here hx rfl (hb hby d16_45) ?_
            refine XS.istoreN X0.here hx rfl (hb hby d16_46) rfl (l' := #[.val (.int p1), .val (.int p2), .val (.int p3), .val (.int (1 : Int32))]) rfl ?_
            refine XS.goto X0.here hx rfl (pc0 := 47) (pc' := 113) rfl (hb hby d16_47) (by decide) (by decide) ?_
            show Steps p.tables e below (s₁.setTop (mkF m 113 #[.val (.int p1), .val (.int p2), .val (.int p3), .val (.int (1 : Int32))] [])) _
            exact castTop (by first | (simp only [if_neg hc3_234, if_pos hc32_238, if_neg hc37_239, if_pos hc42_240]; done) | rfl) k
          · show Steps p.tables e below (s₁.setTop (mkF m 42 #[.val (.int p1), .val (.int p2), .val (.int p3), .val (.int (-1 : Int32))] [(.int (1 : Int32)), (.int p3)])) _
            refine XS.icmpYes X0.here hx rfl (pc0 := 42) (pc' := 50) rfl (hb hby d16_42) rfl (feq hc42_240).2 (by decide) (by decide) ?_
            refine XS.iloadN X0.here hx rfl (hb hby d16_50) rfl ?_
            by_cases hc51_241 : p2 = (0 : Int32)
            · show Steps p.tables e below (s₁.setTop (mkF m 51 #[.val (.int p1), .val (.int p2), .val (.int p3), .val (.int (-1 : Int32))] [(.int p2)])) _
              refine XS.ifYes X0.here hx rfl (pc0 := 51) (pc' := 59) rfl (hb hby d16_51) rfl ((if0 _ _).trans (teq hc51_241).1) (by decide) (by decide) ?_
              refine XS.iloadN X0.here hx rfl (hb hby d16_59) rfl ?_
              refine XS.istoreN X0.here hx rfl (hb hby d16_60) rfl (l' := #[.val (.int p1), .val (.int p2), .val (.int p3), .val (.int p3)]) rfl ?_
              refine XS.goto X0.here hx rfl (pc0 := 61) (pc' := 113) rfl (hb hby d16_61) (by decide) (by decide) ?_
              show Steps p.tables e below (s₁.setTop (mkF m 113 #[.val (.int p1), .val (.int p2), .val (.int p3), .val (.int p3)] [])) _
              exact castTop (by first | (simp only [if_neg hc3_234, if_pos hc32_238, if_neg hc37_239, if_neg hc42_240, if_pos hc51_241]; done) | rfl) k
            · show Steps p.tables e below (s₁.setTop (mkF m 51 #[.val (.int p1), .val (.int p2), .val (.int p3), .val (.int (-1 : Int32))] [(.int p2)])) _
              refine XS.ifNo X0.here hx rfl (hb hby d16_51) rfl ((if0 _ _).trans (feq hc51_241).1) ?_
              refine XS.iloadN X0.here hx rfl (hb hby d16_54) rfl ?_
              refine XS.iloadN X0.here hx rfl (hb hby d16_55) rfl ?_
              by_cases hc56_242 : p2 = p3
              · show Steps p.tables e below (s₁.setTop (mkF m 56 #[.val (.int p1), .val (.int p2), .val (.int p3), .val (.int (-1 : Int32))] [(.int p3), (.int p2)])) _
                refine XS.icmpNo X0.here hx rfl (hb hby d16_56) rfl (teq hc56_242).2 ?_
                refine XS.iloadN X0.here hx rfl (hb hby d16_59) rfl ?_
                refine XS.istoreN X0.here hx rfl (hb hby d16_60) rfl (l' := #[.val (.int p1), .val (.int p2), .val (.int p3), .val (.int p3)]) rfl ?_
                refine XS.goto X0.here hx rfl (pc0 := 61) (pc' := 113) rfl (hb hby d16_61) (by decide) (by decide) ?_
                show Steps p.tables e below (s₁.setTop (mkF m 113 #[.val (.int p1), .val (.int p2), .val (.int p3), .val (.int p3)] [])) _
                exact castTop (by first | (simp only [if_neg hc3_234, if_pos hc32_238, if_neg hc37_239, if_neg hc42_240, if_neg hc51_241, if_pos hc56_242]; done) | rfl) k
              · show Steps p.tables e below (s₁.setTop (mkF m 56 #[.val (.int p1), .val (.int p2), .val (.int p3), .val (.int (-1 : Int32))] [(.int p3), (.int p2)])) _
                refine XS.icmpYes X0.here hx rfl (pc0 := 56) (pc' := 113) rfl (hb hby d16_56) rfl (feq hc56_242).2 (by decide) (by decide) ?_
                show Steps p.tables e below (s₁.setTop (mkF m 113 #[.val (.int p1), .val (.int p2), .val (.int p3), .val (.int (-1 : Int32))] [])) _
                exact castTop (by first | (simp only [if_neg hc3_234, if_pos hc32_238, if_neg hc37_239, if_neg hc42_240, if_neg hc51_241, if_neg hc56_242]; done) | rfl) k
      · show Steps p.tables e below (s₁.setTop (mkF m 32 #[.val (.int p1), .val (.int p2), .val (.int p3), .val (.int (-1 : Int32))] [(.int (1 : Int32)), (.int p1)])) _
        refine XS.icmpYes X0.here hx rfl (pc0 := 32) (pc' := 64) rfl (hb hby d16_32) rfl (feq hc32_238).2 (by decide) (by decide) ?_
        refine XS.iloadN X0.here hx rfl (hb hby d16_64) rfl ?_
        refine XS.iconst X0.here hx rfl (hb hby d16_65) ?_
        by_cases hc66_243 : p1 = (5 : Int32)
        · show Steps p.tables e below (s₁.setTop (mkF m 66 #[.val (.int p1), .val (.int p2), .val (.int p3), .val (.int (-1 : Int32))] [(.int (5 : Int32)), (.int p1)])) _
          refine XS.icmpNo X0.here hx rfl (hb hby d16_66) rfl (teq hc66_243).2 ?_
          refine XS.iloadN X0.here hx rfl (hb hby d16_69) rfl ?_
          by_cases hc70_244 : p2 = (0 : Int32)
          · show Steps p.tables e below (s₁.setTop (mkF m 70 #[.val (.int p1), .val (.int p2), .val (.int p3), .val (.int (-1 : Int32))] [(.int p2)])) _
            refine XS.ifYes X0.here hx rfl (pc0 := 70) (pc' := 83) rfl (hb hby d16_70) rfl ((if0 _ _).trans (teq hc70_244).1) (by decide) (by decide) ?_
            refine XS.iconst X0.here hx rfl (hb hby d16_83) ?_
            refine XS.istoreN X0.here hx rfl (hb hby d16_84) rfl (l' := #[.val (.int p1), .val (.int p2), .val (.int p3), .val (.int (0 : Int32))]) rfl ?_
            refine XS.goto X0.here hx rfl (pc0 := 85) (pc' := 113) rfl (hb hby d16_85) (by decide) (by decide) ?_
            show Steps p.tables e below (s₁.setTop (mkF m 113 #[.val (.int p1), .val (.int p2), .val (.int p3), .val (.int (0 : Int32))] [])) _
            exact castTop (by first | (simp only [if_neg hc3_234, if_neg hc32_238, if_pos hc66_243, if_pos hc70_244]; done) | rfl) k
          · show Steps p.tables e below (s₁.setTop (mkF m 70 #[.val (.int p1), .val (.int p2), .val (.int p3), .val (.int (-1 : Int32))] [(.int p2)])) _
            refine XS.ifNo X0.here hx rfl (hb hby d16_70) rfl ((if0 _ _).trans (feq hc70_244).1) ?_
            refine XS.iloadN X0.here hx rfl (hb hby d16_73) rfl ?_
            refine XS.iconst X0.here hx rfl (hb hby d16_74) ?_
            by_cases hc75_245 : p3 = (1 : Int32)
            · show Steps p.tables e below (s₁.setTop (mkF m 75 #[.val (.int p1), .val (.int p2), .val (.int p3), .val (.int (-1 : Int32))] [(.int (1 : Int32)), (.int p3)])) _
              refine XS.icmpYes X0.here hx rfl (pc0 := 75) (pc' := 83) rfl (hb hby d16_75) rfl (teq hc75_245).1 (by decide) (by decide) ?_
              refine XS.iconst X0.here hx rfl (hb hby d16_83) ?_
              refine XS.istoreN X0.here hx rfl (hb hby d16_84) rfl (l' := #[.val (.int p1), .val (.int p2), .val (.int p3), .val (.int (0 : Int32))]) rfl ?_
              refine XS.goto X0.here hx rfl (pc0 := 85) (pc' := 113) rfl (hb hby d16_85) (by decide) (by decide) ?_
              show Steps p.tables e below (s₁.setTop (mkF m 113 #[.val (.int p1), .val (.int p2), .val (.int p3), .val (.int (0 : Int32))] [])) _
              exact castTop (by first | (simp only [if_neg hc3_234, if_neg hc32_238, if_pos hc66_243, if_neg hc70_244, if_pos hc75_245]; done) | rfl) k
            · show Steps p.tables e below (s₁.setTop (mkF m 75 #[.val (.int p1), .val (.int p2), .val (.int p3), .val (.int (-1 : Int32))] [(.int (1 : Int32)), (.int p3)])) _
              refine XS.icmpNo X0.here hx rfl (hb hby d16_75) rfl (feq hc75_245).1 ?_
              refine XS.iloadN X0.here hx rfl (hb hby d16_78) rfl ?_
              refine XS.iloadN X0.here hx rfl (hb hby d16_79) rfl ?_
              by_cases hc80_246 : p2 = p3
              · show Steps p.tables e below (s₁.setTop (mkF m 80 #[.val (.int p1), .val (.int p2), .val (.int p3), .val (.int (-1 : Int32))] [(.int p3), (.int p2)])) _
                refine XS.icmpNo X0.here hx rfl (hb hby d16_80) rfl (teq hc80_246).2 ?_
                refine XS.iconst X0.here hx rfl (hb hby d16_83) ?_
                refine XS.istoreN X0.here hx rfl (hb hby d16_84) rfl (l' := #[.val (.int p1), .val (.int p2), .val (.int p3), .val (.int (0 : Int32))]) rfl ?_
                refine XS.goto X0.here hx rfl (pc0 := 85) (pc' := 113) rfl (hb hby d16_85) (by decide) (by decide) ?_
                show Steps p.tables e below (s₁.setTop (mkF m 113 #[.val (.int p1), .val (.int p2), .val (.int p3), .val (.int (0 : Int32))] [])) _
                exact castTop (by first | (simp only [if_neg hc3_234, if_neg hc32_238, if_pos hc66_243, if_neg hc70_244, if_neg hc75_245, if_pos hc80_246]; done) | rfl) k
              · show Steps p.tables e below (s₁.setTop (mkF m 80 #[.val (.int p1), .val (.int p2), .val (.int p3), .val (.int (-1 : Int32))] [(.int p3), (.int p2)])) _
                refine XS.icmpYes X0.here hx rfl (pc0 := 80) (pc' := 88) rfl (hb hby d16_80) rfl (feq hc80_246).2 (by decide) (by decide) ?_
                refine XS.iloadN X0.here hx rfl (hb hby d16_88) rfl ?_
                by_cases hc89_247 : p3 = (0 : Int32)
                · show Steps p.tables e below (s₁.setTop (mkF m 89 #[.val (.int p1), .val (.int p2), .val (.int p3), .val (.int (-1 : Int32))] [(.int p3)])) _
                  refine XS.ifNo X0.here hx rfl (hb hby d16_89) rfl ((if0 _ _).trans (teq hc89_247).2) ?_
                  refine XS.iloadN X0.here hx rfl (hb hby d16_92) rfl ?_
                  refine XS.istoreN X0.here hx rfl (hb hby d16_93) rfl (l' := #[.val (.int p1), .val (.int p2), .val (.int p3), .val (.int p2)]) rfl ?_
                  refine XS.goto X0.here hx rfl (pc0 := 94) (pc' := 113) rfl (hb hby d16_94) (by decide) (by decide) ?_
                  show Steps p.tables e below (s₁.setTop (mkF m 113 #[.val (.int p1), .val (.int p2), .val (.int p3), .val (.int p2)] [])) _
                  exact castTop (by first | (simp only [if_neg hc3_234, if_neg hc32_238, if_pos hc66_243, if_neg hc70_244, if_neg hc75_245, if_neg hc80_246, if_pos hc89_247]; done) | rfl) k
                · show Steps p.tables e below (s₁.setTop (mkF m 89 #[.val (.int p1), .val (.int p2), .val (.int p3), .val (.int (-1 : Int32))] [(.int p3)])) _
                  refine XS.ifYes X0.here hx rfl (pc0 := 89) (pc' := 113) rfl (hb hby d16_89) rfl ((if0 _ _).trans (feq hc89_247).2) (by decide) (by decide) ?_
                  show Steps p.tables e below (s₁.setTop (mkF m 113 #[.val (.int p1), .val (.int p2), .val (.int p3), .val (.int (-1 : Int32))] [])) _
                  exact castTop (by first | (simp only [if_neg hc3_234, if_neg hc32_238, if_pos hc66_243, if_neg hc70_244, if_neg hc75_245, if_neg hc80_246, if_neg hc89_247]; done) | rfl) k
        · show Steps p.tables e below (s₁.setTop (mkF m 66 #[.val (.int p1), .val (.int p2), .val (.int p3), .val (.int (-1 : Int32))] [(.int (5 : Int32)), (.int p1)])) _
          refine XS.icmpYes X0.here hx rfl (pc0 := 66) (pc' := 97) rfl (hb hby d16_66) rfl (feq hc66_243).2 (by decide) (by decide) ?_
          refine XS.iloadN X0.here hx rfl (hb hby d16_97) rfl ?_
          refine XS.iloadN X0.here hx rfl (hb hby d16_98) rfl ?_
          by_cases hc99_248 : p2 = p3
          · show Steps p.tables e below (s₁.setTop (mkF m 99 #[.val (.int p1), .val (.int p2), .val (.int p3), .val (.int (-1 : Int32))] [(.int p3), (.int p2)])) _
            refine XS.icmpNo X0.here hx rfl (hb hby d16_99) rfl (teq hc99_248).2 ?_
            refine XS.iconst X0.here hx rfl (hb hby d16_102) ?_
            refine XS.istoreN X0.here hx rfl (hb hby d16_103) rfl (l' := #[.val (.int p1), .val (.int p2), .val (.int p3), .val (.int (0 : Int32))]) rfl ?_
            refine XS.goto X0.here hx rfl (pc0 := 104) (pc' := 113) rfl (hb hby d16_104) (by decide) (by decide) ?_
            show Steps p.tables e below (s₁.setTop (mkF m 113 #[.val (.int p1), .val (.int p2), .val (.int p3), .val (.int (0 : Int32))] [])) _
            exact castTop (by first | (simp only [if_neg hc3_234, if_neg hc32_238, if_neg hc66_243, if_pos hc99_248]; done) | rfl) k
          · show Steps p.tables e below (s₁.setTop (mkF m 99 #[.val (.int p1), .val (.int p2), .val (.int p3), .val (.int (-1 : Int32))] [(.int p3), (.int p2)])) _
            refine XS.icmpYes X0.here hx rfl (pc0 := 99) (pc' := 107) rfl (hb hby d16_99) rfl (feq hc99_248).2 (by decide) (by decide) ?_
            refine XS.iloadN X0.here hx rfl (hb hby d16_107) rfl ?_
            by_cases hc108_249 : p2 = (0 : Int32)
            · show Steps p.tables e below (s₁.setTop (mkF m 108 #[.val (.int p1), .val (.int p2), .val (.int p3), .val (.int (-1 : Int32))] [(.int p2)])) _
              refine XS.ifNo X0.here hx rfl (hb hby d16_108) rfl ((if0 _ _).trans (teq hc108_249).2) ?_
              refine XS.iloadN X0.here hx rfl (hb hby d16_111) rfl ?_
              refine XS.istoreN X0.here hx rfl (hb hby d16_112) rfl (l' := #[.val (.int p1), .val (.int p2), .val (.int p3), .val (.int p3)]) rfl ?_
              show Steps p.tables e below (s₁.setTop (mkF m 113 #[.val (.int p1), .val (.int p2), .val (.int p3), .val (.int p3)] [])) _
              exact castTop (by first | (simp only [if_neg hc3_234, if_neg hc32_238, if_neg hc66_243, if_neg hc99_248, if_pos hc108_249]; done) | rfl) k
            · show Steps p.tables e below (s₁.setTop (mkF m 108 #[.val (.int p1), .val (.int p2), .val (.int p3), .val (.int (-1 : Int32))] [(.int p2)])) _
              refine XS.ifYes X0.here hx rfl (pc0 := 108) (pc' := 113) rfl (hb hby d16_108) rfl ((if0 _ _).trans (feq hc108_249).2) (by decide) (by decide) ?_
              show Steps p.tables e below (s₁.setTop (mkF m 113 #[.val (.int p1), .val (.int p2), .val (.int p3), .val (.int (-1 : Int32))] [])) _
              exact castTop (by first | (simp only [if_neg hc3_234, if_neg hc32_238, if_neg hc66_243, if_neg hc99_248, if_neg hc108_249]; done) | rfl) k
  refine own_go (B := s₁.setTop (mkF m 114 #[.val (.int p1), .val (.int p2), .val (.int p3), .val (.int (if p1 = (0 : Int32) then (if p2 = (0 : Int32) then p2 else (if p2 = p3 then p2 else (if p2 = (1 : Int32) then p3 else (-1 : Int32)))) else (if p1 = (1 : Int32) then (if p2 = (1 : Int32) then (1 : Int32) else (if p3 = (1 : Int32) then (1 : Int32) else (if p2 = (0 : Int32) then p3 else (if p2 = p3 then p3 else (-1 : Int32))))) else (if p1 = (5 : Int32) then (if p2 = (0 : Int32) then (0 : Int32) else (if p3 = (1 : Int32) then (0 : Int32) else (if p2 = p3 then (0 : Int32) else (if p3 = (0 : Int32) then p2 else (-1 : Int32))))) else (if p2 = p3 then (0 : Int32) else (if p2 = (0 : Int32) then p3 else (-1 : Int32)))))))] [(.int (if p1 = (0 : Int32) then (if p2 = (0 : Int32) then p2 else (if p2 = p3 then p2 else (if p2 = (1 : Int32) then p3 else (-1 : Int32)))) else (if p1 = (1 : Int32) then (if p2 = (1 : Int32) then (1 : Int32) else (if p3 = (1 : Int32) then (1 : Int32) else (if p2 = (0 : Int32) then p3 else (if p2 = p3 then p3 else (-1 : Int32))))) else (if p1 = (5 : Int32) then (if p2 = (0 : Int32) then (0 : Int32) else (if p3 = (1 : Int32) then (0 : Int32) else (if p2 = p3 then (0 : Int32) else (if p3 = (0 : Int32) then p2 else (-1 : Int32))))) else (if p2 = p3 then (0 : Int32) else (if p2 = (0 : Int32) then p3 else (-1 : Int32)))))))])) (fun t k => ?_) ?_
  · refine XS.iloadN X0.here hx rfl (hb hby d16_113) rfl ?_
    exact k
  obtain ⟨fs, hr, hrun, hended, hW, hsame⟩ := X0.leave (v := some (.int (if p1 = (0 : Int32) then (if p2 = (0 : Int32) then p2 else (if p2 = p3 then p2 else (if p2 = (1 : Int32) then p3 else (-1 : Int32)))) else (if p1 = (1 : Int32) then (if p2 = (1 : Int32) then (1 : Int32) else (if p3 = (1 : Int32) then (1 : Int32) else (if p2 = (0 : Int32) then p3 else (if p2 = p3 then p3 else (-1 : Int32))))) else (if p1 = (5 : Int32) then (if p2 = (0 : Int32) then (0 : Int32) else (if p3 = (1 : Int32) then (0 : Int32) else (if p2 = p3 then (0 : Int32) else (if p3 = (0 : Int32) then p2 else (-1 : Int32))))) else (if p2 = p3 then (0 : Int32) else (if p2 = (0 : Int32) then p3 else (-1 : Int32)))))))) (fun h => by rw [Bd.returns] at h; cases h)
  refine ⟨_, _, ?_, hrun, hended, _, _, rfl, ?_, ⟨_, rfl⟩, hW, hsame.mono (by decide) (by decide)⟩
  · show Steps p.tables e below (s₁.setTop (mkF m 114 #[.val (.int p1), .val (.int p2), .val (.int p3), .val (.int (if p1 = (0 : Int32) then (if p2 = (0 : Int32) then p2 else (if p2 = p3 then p2 else (if p2 = (1 : Int32) then p3 else (-1 : Int32)))) else (if p1 = (1 : Int32) then (if p2 = (1 : Int32) then (1 : Int32) else (if p3 = (1 : Int32) then (1 : Int32) else (if p2 = (0 : Int32) then p3 else (if p2 = p3 then p3 else (-1 : Int32))))) else (if p1 = (5 : Int32) then (if p2 = (0 : Int32) then (0 : Int32) else (if p3 = (1 : Int32) then (0 : Int32) else (if p2 = p3 then (0 : Int32) else (if p3 = (0 : Int32) then p2 else (-1 : Int32))))) else (if p2 = p3 then (0 : Int32) else (if p2 = (0 : Int32) then p3 else (-1 : Int32)))))))] [(.int (if p1 = (0 : Int32) then (if p2 = (0 : Int32) then p2 else (if p2 = p3 then p2 else (if p2 = (1 : Int32) then p3 else (-1 : Int32)))) else (if p1 = (1 : Int32) then (if p2 = (1 : Int32) then (1 : Int32) else (if p3 = (1 : Int32) then (1 : Int32) else (if p2 = (0 : Int32) then p3 else (if p2 = p3 then p3 else (-1 : Int32))))) else (if p1 = (5 : Int32) then (if p2 = (0 : Int32) then (0 : Int32) else (if p3 = (1 : Int32) then (0 : Int32) else (if p2 = p3 then (0 : Int32) else (if p3 = (0 : Int32) then p2 else (-1 : Int32))))) else (if p2 = p3 then (0 : Int32) else (if p2 = (0 : Int32) then p3 else (-1 : Int32)))))))])) _
    exact retOut X0 hx Bd.returns rfl (Or.inl ⟨rfl, Or.inl rfl, _, rfl⟩) (hb hby d16_114) hr
  · show Qrm16 Z p1 p2 p3 h0 n0 _ s₁.heap _
    rw [e0]
    exact ⟨rfl, N0, rfl⟩
def own_AP (w : Nat) (ns : List Int32) (n : Nat) (cp : Int64) (op a b : Int32) (ns' bs' cs' : List Int32) (sz' : Int32) (cp' : Int64) (n' : Nat) (r : Int32) : Prop :=
  own_Inv ns' bs' cs' n' ∧ sz'.toInt = (n' : Int) ∧ own_agree ns ns' n ∧ n ≤ n' ∧ n' ≤ n + w ∧ (cp.toInt ≤ cp'.toInt ∧ cp'.toInt ≤ cp.toInt + w) ∧ (0 ≤ r.toInt ∧ r.toInt < n') ∧
  (own_vr ns a.toInt.toNat ≤ own_vr ns' r.toInt.toNat ∨ own_vr ns b.toInt.toNat ≤ own_vr ns' r.toInt.toNat) ∧
  ∀ q, own_val ns' q r.toInt.toNat = own_op op (own_val ns q a.toInt.toNat) (own_val ns q b.toInt.toNat)
def own_pair (ns : List Int32) (n d : Nat) (op a b A B : Int32) : Prop :=
  (0 ≤ A.toInt ∧ A.toInt < n) ∧ (0 ≤ B.toInt ∧ B.toInt < n) ∧ (op = 5 ∨ A.toInt ≤ B.toInt) ∧ (d ≤ own_vr ns A.toInt.toNat ∧ d ≤ own_vr ns B.toInt.toNat) ∧
  (∀ x : Int, (own_vr ns A.toInt.toNat ≤ x ∨ own_vr ns B.toInt.toNat ≤ x) → (own_vr ns a.toInt.toNat ≤ x ∨ own_vr ns b.toInt.toNat ≤ x)) ∧
  ∀ q, own_op op (own_val ns q A.toInt.toNat) (own_val ns q B.toInt.toNat) = own_op op (own_val ns q a.toInt.toNat) (own_val ns q b.toInt.toNat)
theorem own_pair_5 {ns : List Int32} {n d : Nat} {op a b : Int32} (ha : 0 ≤ a.toInt ∧ a.toInt < n) (hb : 0 ≤ b.toInt ∧ b.toInt < n) (da : d ≤ own_vr ns a.toInt.toNat) (db : d ≤ own_vr ns b.toInt.toNat) (h : op = (5 : Int32)) : own_pair ns n d op a b a b :=
  ⟨ha, hb, Or.inl h, ⟨da, db⟩, fun _ h => h, fun _ => rfl⟩
theorem own_opc {op : Int32} (ho : op = (0 : Int32) ∨ op = (1 : Int32) ∨ op = (2 : Int32) ∨ op = (5 : Int32)) (h : ¬ op = (5 : Int32)) (x y : Bool) : own_op op x y = own_op op y x := by
  rcases ho with rfl | rfl | rfl | rfl
  · cases x <;> cases y <;> rfl
  · cases x <;> cases y <;> rfl
  · cases x <;> cases y <;> rfl
  · exact absurd rfl h
theorem own_pair_mm {ns : List Int32} {n d : Nat} {op a b : Int32} (ho : op = (0 : Int32) ∨ op = (1 : Int32) ∨ op = (2 : Int32) ∨ op = (5 : Int32)) (ha : 0 ≤ a.toInt ∧ a.toInt < n) (hb : 0 ≤ b.toInt ∧ b.toInt < n) (da : d ≤ own_vr ns a.toInt.toNat) (db : d ≤ own_vr ns b.toInt.toNat) (h : ¬ op = (5 : Int32)) : own_pair ns n d op a b (frm3 a b) (frm15 a b) := by
  by_cases c : a.toInt ≤ b.toInt
  · have e1 : frm3 a b = a := by unfold frm3; rw [if_neg (by rw [Int32.lt_iff_toInt_lt]; omega)]
    have e2 : frm15 a b = b := by
      unfold frm15
      split
      · rfl
      · rename_i g; rw [Int32.lt_iff_toInt_lt] at g; exact Int32.toInt_inj.mp (by omega)
    rw [e1, e2]
    exact ⟨ha, hb, Or.inr c, ⟨da, db⟩, fun _ h => h, fun _ => rfl⟩
  · have e1 : frm3 a b = b := by unfold frm3; rw [if_pos (by rw [Int32.lt_iff_toInt_lt]; omega)]
    have e2 : frm15 a b = a := by unfold frm15; rw [if_neg (by rw [Int32.lt_iff_toInt_lt]; omega)]
    rw [e1, e2]
    exact ⟨hb, ha, Or.inr (by omega), ⟨db, da⟩, fun _ h => h.symm, fun _ => own_opc ho h _ _⟩
theorem own_v0 {x : Int32} (h : x = (0 : Int32)) : x.toInt.toNat = 0 := by rw [h]; rfl
theorem own_v1 {x : Int32} (h : x = (1 : Int32)) : x.toInt.toNat = 1 := by rw [h]; rfl
theorem own_term_ok {ns : List Int32} {n d : Nat} {op a b A B : Int32} (W : own_WF ns n) (ho : op = (0 : Int32) ∨ op = (1 : Int32) ∨ op = (2 : Int32) ∨ op = (5 : Int32)) (P : own_pair ns n d op a b A B) (h : ¬ (own_term op A B < (0 : Int32))) :
    (0 ≤ (own_term op A B).toInt ∧ (own_term op A B).toInt < n) ∧ (own_vr ns A.toInt.toNat ≤ own_vr ns (own_term op A B).toInt.toNat ∨ own_vr ns B.toInt.toNat ≤ own_vr ns (own_term op A B).toInt.toNat) ∧ ∀ q, own_val ns q (own_term op A B).toInt.toNat = own_op op (own_val ns q A.toInt.toNat) (own_val ns q B.toInt.toNat) := by
  obtain ⟨pa, pb, -⟩ := P
  have hn := W.2.1
  have vA := own_vr_le W (show A.toInt.toNat < n by omega)
  have vB := own_vr_le W (show B.toInt.toNat < n by omega)
  have c0 := W.2.2.2.1
  have c1 := W.2.2.2.2.1
  have z0 : (0 : Int32).toInt = 0 := rfl
  have z1 : (1 : Int32).toInt = 1 := rfl
  have n0 : (0 : Int32).toInt.toNat = 0 := rfl
  have n1 : (1 : Int32).toInt.toNat = 1 := rfl
  have neg : ¬ ¬ ((-1 : Int32) < (0 : Int32)) := by decide
  rcases ho with rfl | rfl | rfl | rfl
  · simp only [own_term, if_true] at h ⊢
    by_cases g1 : A = 0
    · rw [if_pos g1]; refine ⟨pa, Or.inl (Int.le_refl _), fun q => ?_⟩
      rw [own_v0 g1, own_val0]; rfl
    · rw [if_neg g1] at h ⊢
      by_cases g2 : A = B
      · rw [if_pos g2]; refine ⟨pa, Or.inl (Int.le_refl _), fun q => ?_⟩
        rw [g2]; show _ = (_ && _); simp
      · rw [if_neg g2] at h ⊢
        by_cases g3 : A = 1
        · rw [if_pos g3]; refine ⟨pb, Or.inr (Int.le_refl _), fun q => ?_⟩
          rw [own_v1 g3, own_val1]; show _ = (true && _); simp
        · rw [if_neg g3] at h; exact absurd h neg
  · have e0 : ¬ ((1 : Int32) = 0) := by decide
    simp only [own_term, if_true, if_neg e0] at h ⊢
    by_cases g1 : A = 1
    · rw [if_pos g1]; refine ⟨⟨by omega, by omega⟩, ?_, fun q => ?_⟩
      · rw [n1, c1]; omega
      · rw [n1, own_v1 g1, own_val1]; rfl
    · rw [if_neg g1] at h ⊢
      by_cases g2 : B = 1
      · rw [if_pos g2]; refine ⟨⟨by omega, by omega⟩, ?_, fun q => ?_⟩
        · rw [n1, c1]; omega
        · rw [n1, own_v1 g2, own_val1]; show true = (_ || true); simp
      · rw [if_neg g2] at h ⊢
        by_cases g3 : A = 0
        · rw [if_pos g3]; refine ⟨pb, Or.inr (Int.le_refl _), fun q => ?_⟩
          rw [own_v0 g3, own_val0]; show _ = (false || _); simp
        · rw [if_neg g3] at h ⊢
          by_cases g4 : A = B
          · rw [if_pos g4]; refine ⟨pb, Or.inr (Int.le_refl _), fun q => ?_⟩
            rw [g4]; show _ = (_ || _); simp
          · rw [if_neg g4] at h; exact absurd h neg
  · have e0 : ¬ ((2 : Int32) = 0) := by decide
    have e1 : ¬ ((2 : Int32) = 1) := by decide
    have e5 : ¬ ((2 : Int32) = 5) := by decide
    simp only [own_term, if_neg e0, if_neg e1, if_neg e5] at h ⊢
    by_cases g1 : A = B
    · rw [if_pos g1]; refine ⟨⟨by omega, by omega⟩, ?_, fun q => ?_⟩
      · rw [n0, c0]; omega
      · rw [n0, own_val0, g1]; show false = (_ != _); simp
    · rw [if_neg g1] at h ⊢
      by_cases g2 : A = 0
      · rw [if_pos g2]; refine ⟨pb, Or.inr (Int.le_refl _), fun q => ?_⟩
        rw [own_v0 g2, own_val0]; show _ = (false != _); simp
      · rw [if_neg g2] at h; exact absurd h neg
  · have e0 : ¬ ((5 : Int32) = 0) := by decide
    have e1 : ¬ ((5 : Int32) = 1) := by decide
    simp only [own_term, if_true, if_neg e0, if_neg e1] at h ⊢
    by_cases g1 : A = 0
    · rw [if_pos g1]; refine ⟨⟨by omega, by omega⟩, ?_, fun q => ?_⟩
      · rw [n0, c0]; omega
      · rw [n0, own_v0 g1, own_val0]; rfl
    · rw [if_neg g1] at h ⊢
      by_cases g2 : B = 1
      · rw [if_pos g2]; refine ⟨⟨by omega, by omega⟩, ?_, fun q => ?_⟩
        · rw [n0, c0]; omega
        · rw [n0, own_v1 g2, own_val0, own_val1]; show false = (_ && !true); simp
      · rw [if_neg g2] at h ⊢
        by_cases g3 : A = B
        · rw [if_pos g3]; refine ⟨⟨by omega, by omega⟩, ?_, fun q => ?_⟩
          · rw [n0, c0]; omega
          · rw [n0, own_val0, g3]; show false = (_ && !_); simp
        · rw [if_neg g3] at h ⊢
          by_cases g4 : B = 0
          · rw [if_pos g4]; refine ⟨pa, Or.inl (Int.le_refl _), fun q => ?_⟩
            rw [own_v0 g4, own_val0]; show _ = (_ && !false); simp
          · rw [if_neg g4] at h; exact absurd h neg
theorem own_ap_term {ns bs cs : List Int32} {n d w : Nat} {sz : Int32} {cp : Int64} {op a b A B : Int32} (I : own_Inv ns bs cs n) (hs : sz.toInt = (n : Int)) (ho : op = (0 : Int32) ∨ op = (1 : Int32) ∨ op = (2 : Int32) ∨ op = (5 : Int32)) (P : own_pair ns n d op a b A B) (h : ¬ (own_term op A B < (0 : Int32))) :
    own_AP w ns n cp op a b ns bs cs sz cp n (own_term op A B) := by
  obtain ⟨r1, r2, r3⟩ := own_term_ok I.1 ho P h
  exact ⟨I, hs, own_agree_refl _ _, Nat.le_refl _, by omega, ⟨by omega, by omega⟩, r1, P.2.2.2.2.1 _ r2, fun q => (r3 q).trans (P.2.2.2.2.2 q)⟩
theorem own_or0 (x : Int32) : (0 : Int32) ||| x = x := by
  apply Int32.toBitVec_inj.mp; rw [Int32.toBitVec_or]; simp
theorem own_ap_cached {ns bs cs : List Int32} {n d w : Nat} {sz : Int32} {cp : Int64} {op a b A B : Int32} (I : own_Inv ns bs cs n) (hs : sz.toInt = (n : Int)) (P : own_pair ns n d op a b A B) (h : ¬ (frm18 op A B cs < (0 : Int32))) :
    own_AP w ns n cp op a b ns bs cs sz cp n (frm18 op A B cs) := by
  have neg : ¬ ¬ ((-1 : Int32) < (0 : Int32)) := by decide
  unfold frm18 at h ⊢
  have he := (own_en_spec (own_hash op A B (0 : Int32))).2
  split at h
  · rename_i g1
    split at h
    · rename_i g2
      split at h
      · rename_i g3
        rw [if_pos g1, if_pos g2, if_pos g3]
        have E := I.2.2.2 _ he (by rw [g1]; exact P.1.1)
        rw [g1, g2, g3, own_or0] at E
        obtain ⟨-, -, e3, e4, e5⟩ := E
        exact ⟨I, hs, own_agree_refl _ _, Nat.le_refl _, by omega, ⟨by omega, by omega⟩, e3, P.2.2.2.2.1 _ e4, fun q => (e5 q).trans (P.2.2.2.2.2 q)⟩
      · exact absurd h neg
    · exact absurd h neg
  · exact absurd h neg
theorem own_term_small {ns : List Int32} {n d : Nat} {op a b A B : Int32} (W : own_WF ns n) (ho : op = (0 : Int32) ∨ op = (1 : Int32) ∨ op = (2 : Int32) ∨ op = (5 : Int32)) (P : own_pair ns n d op a b A B) (hA : A.toInt ≤ 1) (hB : B.toInt ≤ 1) : ¬ (own_term op A B < (0 : Int32)) := by
  obtain ⟨pa, pb, pl, -⟩ := P
  have a01 : A = 0 ∨ A = 1 := by
    have : A.toInt = 0 ∨ A.toInt = 1 := by omega
    rcases this with q | q
    · exact Or.inl (Int32.toInt_inj.mp q)
    · exact Or.inr (Int32.toInt_inj.mp q)
  have b01 : B = 0 ∨ B = 1 := by
    have : B.toInt = 0 ∨ B.toInt = 1 := by omega
    rcases this with q | q
    · exact Or.inl (Int32.toInt_inj.mp q)
    · exact Or.inr (Int32.toInt_inj.mp q)
  rcases a01 with rfl | rfl <;> rcases b01 with rfl | rfl <;> rcases ho with rfl | rfl | rfl | rfl <;> first | decide | (exfalso; revert pl; decide)
theorem own_small {ns : List Int32} {n : Nat} {A : Int32} (W : own_WF ns n) (h0 : 0 ≤ A.toInt) (h1 : A.toInt < n) (h : 3 ≤ own_vr ns A.toInt.toNat) : A.toInt ≤ 1 := by
  rcases Int.lt_or_le 1 A.toInt with c | c
  · have := (W.2.2.2.2.2 A.toInt.toNat (by omega) (by omega)).1; omega
  · exact c
theorem own_term_const {ns : List Int32} {n : Nat} {op a b A B : Int32} (W : own_WF ns n) (ho : op = (0 : Int32) ∨ op = (1 : Int32) ∨ op = (2 : Int32) ∨ op = (5 : Int32)) (P : own_pair ns n 3 op a b A B) : ¬ (own_term op A B < (0 : Int32)) :=
  own_term_small W ho P (own_small W P.1.1 P.1.2 P.2.2.2.1.1) (own_small W P.2.1.1 P.2.1.2 P.2.2.2.1.2)
theorem own_top_spec {ns : List Int32} {n d : Nat} {op a b A B : Int32} (W : own_WF ns n) (ho : op = (0 : Int32) ∨ op = (1 : Int32) ∨ op = (2 : Int32) ∨ op = (5 : Int32)) (P : own_pair ns n d op a b A B) (h : own_term op A B < (0 : Int32)) :
    let t := frm3 (ns.getD (4 * A.toInt.toNat) 0) (ns.getD (4 * B.toInt.toNat) 0)
    (0 ≤ t.toInt ∧ t.toInt ≤ 2) ∧ t.toInt ≤ own_vr ns A.toInt.toNat ∧ t.toInt ≤ own_vr ns B.toInt.toNat ∧ (t.toInt = own_vr ns A.toInt.toNat ∨ t.toInt = own_vr ns B.toInt.toNat) ∧ d ≤ t.toInt := by
  intro t
  have vA := own_vr_le W (show A.toInt.toNat < n by have := P.1; omega)
  have vB := own_vr_le W (show B.toInt.toNat < n by have := P.2.1; omega)
  have e : (t.toInt = own_vr ns A.toInt.toNat ∧ own_vr ns A.toInt.toNat ≤ own_vr ns B.toInt.toNat) ∨ (t.toInt = own_vr ns B.toInt.toNat ∧ own_vr ns B.toInt.toNat ≤ own_vr ns A.toInt.toNat) := by
    show ((frm3 _ _).toInt = _ ∧ _) ∨ ((frm3 _ _).toInt = _ ∧ _)
    unfold frm3 own_vr
    split
    · rename_i g; rw [Int32.lt_iff_toInt_lt] at g; right; omega
    · rename_i g; rw [Int32.lt_iff_toInt_lt] at g; left; omega
  have s : own_vr ns A.toInt.toNat ≤ 2 ∨ own_vr ns B.toInt.toNat ≤ 2 := by
    by_cases c : own_vr ns A.toInt.toNat ≤ 2
    · exact Or.inl c
    · by_cases c' : own_vr ns B.toInt.toNat ≤ 2
      · exact Or.inr c'
      · exact absurd h (own_term_small W ho P (own_small W P.1.1 P.1.2 (by omega)) (own_small W P.2.1.1 P.2.1.2 (by omega)))
  have := P.2.2.2.1
  refine ⟨⟨by omega, by omega⟩, by omega, by omega, by omega, by omega⟩
theorem own_cof {ns : List Int32} {n : Nat} {A t : Int32} (W : own_WF ns n) (hA : 0 ≤ A.toInt ∧ A.toInt < n) (ht : 0 ≤ t.toInt ∧ t.toInt ≤ 2) (hv : t.toInt ≤ own_vr ns A.toInt.toNat) :
    ((0 ≤ (frm21_0 A t ns A.toInt.toNat).toInt ∧ (frm21_0 A t ns A.toInt.toNat).toInt < n) ∧ t.toInt < own_vr ns (frm21_0 A t ns A.toInt.toNat).toInt.toNat) ∧
    ((0 ≤ (frm21_1 A t ns A.toInt.toNat).toInt ∧ (frm21_1 A t ns A.toInt.toNat).toInt < n) ∧ t.toInt < own_vr ns (frm21_1 A t ns A.toInt.toNat).toInt.toNat) ∧
    ∀ q, own_val ns q A.toInt.toNat = if q t.toInt then own_val ns q (frm21_1 A t ns A.toInt.toNat).toInt.toNat else own_val ns q (frm21_0 A t ns A.toInt.toNat).toInt.toNat := by
  have hvr : own_vr ns A.toInt.toNat = (ns.getD (4 * A.toInt.toNat) 0).toInt := rfl
  by_cases c : ns.getD (4 * A.toInt.toNat) 0 = t
  · have h2 : 2 ≤ A.toInt.toNat := by
      rcases Nat.lt_or_ge A.toInt.toNat 2 with z | z
      · have g0 := W.2.2.2.1; have g1 := W.2.2.2.2.1
        have : A.toInt.toNat = 0 ∨ A.toInt.toNat = 1 := by omega
        rw [← c] at ht
        rcases this with q | q <;> rw [q] at ht <;> unfold own_vr at g0 g1 <;> simp only [Nat.mul_zero, Nat.mul_one] at ht g0 g1 <;> omega
      · exact z
    obtain ⟨-, l, h, vl, vh, -⟩ := W.2.2.2.2.2 A.toInt.toNat h2 (by omega)
    have V := fun q => own_val_nd W q h2 (show A.toInt.toNat < n by omega)
    rw [hvr, c] at vl vh
    unfold frm21_0 frm21_1
    rw [if_pos c, if_pos c]
    unfold own_lo at l vl
    unfold own_hi at h vh
    refine ⟨⟨⟨by omega, by omega⟩, vl⟩, ⟨⟨by omega, by omega⟩, vh⟩, fun q => ?_⟩
    have := V q
    rw [hvr, c] at this
    exact this
  · unfold frm21_0 frm21_1
    rw [if_neg c, if_neg c]
    have lt : t.toInt < own_vr ns A.toInt.toNat := by
      have : ¬ t.toInt = (ns.getD (4 * A.toInt.toNat) 0).toInt := fun e => c (Int32.toInt_inj.mp e.symm)
      omega
    exact ⟨⟨hA, lt⟩, ⟨hA, lt⟩, fun q => by split <;> rfl⟩
theorem own_cof2 {ns ns1 : List Int32} {n n1 : Nat} {A t : Int32} (W : own_WF ns n) (W1 : own_WF ns1 n1) (g : own_agree ns ns1 n) (hn : n ≤ n1) (hA : 0 ≤ A.toInt ∧ A.toInt < n) (ht : 0 ≤ t.toInt ∧ t.toInt ≤ 2) (hv : t.toInt ≤ own_vr ns A.toInt.toNat) :
    frm21_0 A t ns1 A.toInt.toNat = frm21_0 A t ns A.toInt.toNat ∧ ((0 ≤ (frm21_1 A t ns1 A.toInt.toNat).toInt ∧ (frm21_1 A t ns1 A.toInt.toNat).toInt < n1) ∧ t.toInt < own_vr ns1 (frm21_1 A t ns1 A.toInt.toNat).toInt.toNat) ∧
    ∀ q, own_val ns1 q A.toInt.toNat = if q t.toInt then own_val ns1 q (frm21_1 A t ns1 A.toInt.toNat).toInt.toNat else own_val ns1 q (frm21_0 A t ns1 A.toInt.toNat).toInt.toNat := by
  obtain ⟨-, h1, h2⟩ := own_cof W1 (A := A) (t := t) ⟨hA.1, by omega⟩ ht (by rw [(own_agree_flds g (show A.toInt.toNat < n by omega)).1]; exact hv)
  refine ⟨?_, h1, h2⟩
  unfold frm21_0
  rw [g (4 * A.toInt.toNat) (by omega), g (4 * A.toInt.toNat + 1) (by omega)]
theorem own_dlt {d : Nat} {t x : Int} (h1 : (d : Int) ≤ t) (h2 : t < x) : ((d + 1 : Nat) : Int) ≤ x := by omega
theorem own_nodeL {ns ns1 bs1 cs1 ns2 bs2 cs2 : List Int32} {n n1 n2 w1 w2 : Nat} {cp cp1 cp2 : Int64} {sz1 sz2 op a0 b0 a1 b1 r0 r1 t : Int32} (P1 : own_AP w1 ns n cp op a0 b0 ns1 bs1 cs1 sz1 cp1 n1 r0) (P2 : own_AP w2 ns1 n1 cp1 op a1 b1 ns2 bs2 cs2 sz2 cp2 n2 r1) (ha : t.toInt < own_vr ns a0.toInt.toNat) (hb : t.toInt < own_vr ns b0.toInt.toNat) : (0 ≤ r0.toInt ∧ r0.toInt < n2) ∧ t.toInt < own_vr ns2 r0.toInt.toNat := by
  obtain ⟨-, -, -, -, -, -, r, v, -⟩ := P1
  obtain ⟨-, -, g, le, -⟩ := P2
  rw [(own_agree_flds g (show r0.toInt.toNat < n1 by omega)).1]
  refine ⟨⟨r.1, by omega⟩, ?_⟩
  rcases v with v | v <;> omega
theorem own_nodeH {ns1 ns2 bs2 cs2 : List Int32} {n1 n2 w2 : Nat} {cp1 cp2 : Int64} {sz2 op a1 b1 r1 t : Int32} (P2 : own_AP w2 ns1 n1 cp1 op a1 b1 ns2 bs2 cs2 sz2 cp2 n2 r1) (ha : t.toInt < own_vr ns1 a1.toInt.toNat) (hb : t.toInt < own_vr ns1 b1.toInt.toNat) : (0 ≤ r1.toInt ∧ r1.toInt < n2) ∧ t.toInt < own_vr ns2 r1.toInt.toNat := by
  obtain ⟨-, -, -, -, -, -, r, v, -⟩ := P2
  refine ⟨r, ?_⟩
  rcases v with v | v <;> omega
theorem own_ap_node {ns bs cs ns1 bs1 cs1 ns2 bs2 cs2 ns3 bs3 : List Int32} {n n1 n2 n3 d w e : Nat} {sz1 sz2 sz3 : Int32} {cp cp1 cp2 : Int64} {op a b A B t c0A c0B c1A c1B d0A d0B r0 r1 r : Int32} {X1 X2 Y1 Y2 Y3 Y4 : Prop} {u1 u2 : (Int → Bool) → Bool}
    (I : own_Inv ns bs cs n) (P : own_pair ns n d op a b A B)
    (T : (0 ≤ t.toInt ∧ t.toInt ≤ 2) ∧ t.toInt ≤ own_vr ns A.toInt.toNat ∧ t.toInt ≤ own_vr ns B.toInt.toNat ∧ (t.toInt = own_vr ns A.toInt.toNat ∨ t.toInt = own_vr ns B.toInt.toNat) ∧ (d : Int) ≤ t.toInt)
    (A0 : X1 ∧ Y1 ∧ ∀ q, own_val ns q A.toInt.toNat = if q t.toInt then u1 q else own_val ns q c0A.toInt.toNat)
    (B0 : X2 ∧ Y2 ∧ ∀ q, own_val ns q B.toInt.toNat = if q t.toInt then u2 q else own_val ns q c0B.toInt.toNat)
    (A1 : d0A = c0A ∧ Y3 ∧ ∀ q, own_val ns1 q A.toInt.toNat = if q t.toInt then own_val ns1 q c1A.toInt.toNat else own_val ns1 q d0A.toInt.toNat)
    (B1 : d0B = c0B ∧ Y4 ∧ ∀ q, own_val ns1 q B.toInt.toNat = if q t.toInt then own_val ns1 q c1B.toInt.toNat else own_val ns1 q d0B.toInt.toNat)
    (P1 : own_AP w ns n cp op c0A c0B ns1 bs1 cs1 sz1 cp1 n1 r0) (P2 : own_AP w ns1 n1 cp1 op c1A c1B ns2 bs2 cs2 sz2 cp2 n2 r1) (P3 : own_NP ns2 cs2 n2 t r0 r1 ns3 bs3 sz3 n3 r)
    (he : e < 1024) (hc : 0 ≤ cp.toInt ∧ cp.toInt + ((2 * w + 1 : Nat) : Int) ≤ 1000) :
    own_AP (2 * w + 1) ns n cp op a b ns3 bs3 (own_put cs2 (4 * e) A B ((0 : Int32) ||| op) r) sz3 (cp2 + (1 : Int64)) n3 r := by
  obtain ⟨I1, -, g1, l1, w1, c1, q1, -, e1⟩ := P1
  obtain ⟨I2, -, g2, l2, w2, c2, q2, -, e2⟩ := P2
  obtain ⟨I3, s3, g3, l3, w3, q3, v3, e3⟩ := P3
  have gA : own_agree ns ns3 n := own_agree_trans (own_agree_trans g1 g2 l1) g3 (by omega)
  have pa := P.1
  have pb := P.2.1
  have key : ∀ q, own_val ns3 q r.toInt.toNat = own_op op (own_val ns q A.toInt.toNat) (own_val ns q B.toInt.toNat) := fun q => by
    rw [e3 q]
    by_cases c : q t.toInt = true
    · have xA := A1.2.2 q; have xB := B1.2.2 q
      rw [if_pos c] at xA xB
      rw [if_pos c, e2 q, ← xA, ← xB, own_val_agree I.1 g1 q (by omega), own_val_agree I.1 g1 q (by omega)]
    · have xA := A0.2.2 q; have xB := B0.2.2 q
      rw [if_neg c] at xA xB
      rw [if_neg c, own_val_agree I1.1 g2 q (by omega), e1 q, xA, xB]
  have fA := (own_agree_flds gA (show A.toInt.toNat < n by omega)).1
  have fB := (own_agree_flds gA (show B.toInt.toNat < n by omega)).1
  have vr : own_vr ns A.toInt.toNat ≤ own_vr ns3 r.toInt.toNat ∨ own_vr ns B.toInt.toNat ≤ own_vr ns3 r.toInt.toNat := by
    rcases T.2.2.2.1 with z | z
    · left; omega
    · right; omega
  have E : own_ent ns3 n3 A B ((0 : Int32) ||| op) r := by
    rw [own_or0]
    refine ⟨⟨pa.1, by omega⟩, ⟨pb.1, by omega⟩, q3, by rw [fA, fB]; exact vr, fun q => ?_⟩
    rw [key q, own_val_agree I.1 gA q (by omega), own_val_agree I.1 gA q (by omega)]
  have o1 : (1 : Int64).toInt = 1 := rfl
  have ca := c_ladd cp2 1
  have cb := rng64 (cp2 + 1)
  refine ⟨⟨I3.1, I3.2.1, own_CK_put I3.2.2 he E⟩, s3, gA, by omega, by omega, ⟨by omega, by omega⟩, q3, P.2.2.2.2.1 _ vr, fun q => (key q).trans (P.2.2.2.2.2 q)⟩
def Qrm14_3 (Z : State) (a1 : Addr) (p2 : Int32) (p3 : Int32) (p4 : Int32) (b1 : Addr) (b2 : Addr) (b3 : Addr) (k1 : ClassId) (k2 : ClassId) (k3 : ClassId) (ns : List Int32) (bs : List Int32) (cs : List Int32) (sz : Int32) (cp : Int64) (n : Nat) (h0 : Heap) (n0 : Nat) (v : Option Value) (h : Heap) (L : List Loc) : Prop := ∃ ns' : List Int32, ∃ bs' : List Int32, ∃ cs' : List Int32, ∃ sz' : Int32, ∃ cp' : Int64, ∃ n' : Nat, ∃ r' : Int32, v = some (.int r') ∧ Fr n0 L ∧ Keep h0 h [a1, b1, b2, b3] ∧ Exa Z h a1 OB ∧ Fld Z h a1 OB "variableCount" "I" (.int (3 : Int32)) ∧ Fld Z h a1 OB "maxComputations" "J" (.long (9223372036854775807 : Int64)) ∧ Fld Z h a1 OB "nodes" "[I" (.ref b1) ∧ Fld Z h a1 OB "buckets" "[I" (.ref b2) ∧ Fld Z h a1 OB "cacheBits" "I" (.int (10 : Int32)) ∧ Fld Z h a1 OB "cache" "[I" (.ref b3) ∧ Fld Z h a1 OB "size" "I" (.int sz') ∧ Fld Z h a1 OB "computations" "J" (.long cp') ∧ Arv Z h b1 k1 .int (256 : Int32) (own_I ns') (.int (0 : Int32)) ∧ Arv Z h b2 k2 .int (64 : Int32) (own_I bs') (.int (0 : Int32)) ∧ Arv Z h b3 k3 .int (4096 : Int32) (own_I cs') (.int (0 : Int32)) ∧ (own_AP 0 ns n cp p2 p3 p4 ns' bs' cs' sz' cp' n' r')
theorem efrm14_3 (m : MethodId) (x0 : Addr) (x1 : Int32) (x2 : Int32) (x3 : Int32) : entryFrame m #[(.ref x0), (.int x1), (.int x2), (.int x3)] 9 = mkF m 0 #[.val (.ref x0), .val (.int x1), .val (.int x2), .val (.int x3), .unset, .unset, .unset, .unset, .unset] [] := by first | (simp [entryFrame, mkF, argsToLocals, Value.category]; done) | rfl
set_option maxRecDepth 65536 in
set_option maxHeartbeats 40000000 in
theorem rm14_3 (l : Launch) (Z : State) (a0 : Array Value) (hw : ∀ d ∈ tables_1, d.before a0 Z = true) (ws : List Jvm.Cond) (a1 : Addr) (p2 : Int32) (p3 : Int32) (p4 : Int32) (b1 : Addr) (b2 : Addr) (b3 : Addr) (k1 : ClassId) (k2 : ClassId) (k3 : ClassId) (ns : List Int32) (bs : List Int32) (cs : List Int32) (sz : Int32) (cp : Int64) (n : Nat) (h0 : Heap) (n0 : Nat) (Z0 : n0 ≤ h0.size) (P0 : Exa Z h0 a1 OB) (P1 : Fld Z h0 a1 OB "variableCount" "I" (.int (3 : Int32))) (P2 : Fld Z h0 a1 OB "maxComputations" "J" (.long (9223372036854775807 : Int64))) (P3 : Fld Z h0 a1 OB "nodes" "[I" (.ref b1)) (P4 : Fld Z h0 a1 OB "buckets" "[I" (.ref b2)) (P5 : Fld Z h0 a1 OB "cacheBits" "I" (.int (10 : Int32))) (P6 : Fld Z h0 a1 OB "cache" "[I" (.ref b3)) (P7 : Fld Z h0 a1 OB "size" "I" (.int sz)) (P8 : Fld Z h0 a1 OB "computations" "J" (.long cp)) (P9 : Arv Z h0 b1 k1 .int (256 : Int32) (own_I ns) (.int (0 : Int32))) (P10 : Arv Z h0 b2 k2 .int (64 : Int32) (own_I bs) (.int (0 : Int32))) (P11 : Arv Z h0 b3 k3 .int (4096 : Int32) (own_I cs) (.int (0 : Int32))) (g_a1 : n0 ≤ a1) (g_b1 : n0 ≤ b1) (g_b2 : n0 ≤ b2) (g_b3 : n0 ≤ b3) (ne_a1_b1 : a1 ≠ b1) (ne_a1_b2 : a1 ≠ b2) (ne_a1_b3 : a1 ≠ b3) (ne_b1_b2 : b1 ≠ b2) (ne_b1_b3 : b1 ≠ b3) (ne_b2_b3 : b2 ≠ b3) (qI : own_Inv ns bs cs n) (qs : sz.toInt = (n : Int)) (qw : n + 0 ≤ 64) (qc : 0 ≤ cp.toInt ∧ cp.toInt + 0 ≤ 1000) (qo : p2 = (0 : Int32) ∨ p2 = (1 : Int32) ∨ p2 = (2 : Int32) ∨ p2 = (5 : Int32)) (qa : 0 ≤ p3.toInt ∧ p3.toInt < n) (qb : 0 ≤ p4.toInt ∧ p4.toInt < n) (qda : 3 ≤ own_vr ns p3.toInt.toNat) (qdb : 3 ≤ own_vr ns p4.toInt.toNat) :
    MetFree l (⟨OB, "apply", "(III)I"⟩ : MethodName) (head1 (Jvm.Cond.code (⟨OB, "apply", "(III)I"⟩ : MethodName) prog_103_method_19_code 9 (some .int) :: ws) ({ frames := 1, cells := 0, slots := 0, locals := 15 } : Room)) (fun a U => a = #[(.ref a1), (.int p2), (.int p3), (.int p4)] ∧ Z.Warmed39 U.vm ∧ U.heap = h0) (fun _ _ _ _ _ => True) (fun _ U o U' => ∃ v L, o = .returned v ∧ Qrm14_3 Z a1 p2 p3 p4 b1 b2 b3 k1 k2 k3 ns bs cs sz cp n h0 n0 v U'.heap L ∧ FrameEnd U o U' L ({ frames := 1, cells := 0, slots := 0, locals := 15 } : Room).cells ({ frames := 1, cells := 0, slots := 0, locals := 15 } : Room).slots) := by
  refine MetFree.of_bodySF (plainFor_of_name pn_0) hisR ?_
  intro p e s m args below meth c s₁ Bd hml0 hP hK
  obtain ⟨rfl, hZ, hh⟩ := hP
  have hx := Bd.exec
  have hby := Bd.bytes
  have hml : c.maxLocals = 9 := hml0
  have hown : s.vm.findClass OB = some m.cls := findClass_of_methodNamed Bd.named
  have hnm := (name_of_methodNamed Bd.named Bd.method).1
  have X0 : Stand p l e ({ frames := 1, cells := 0, slots := 0, locals := 15 } : Room) s m #[(.ref a1), (.int p2), (.int p3), (.int p4)] below meth c s₁ [] 0 0 := Stand.of_body Bd
  have e0 : s₁.heap = h0 := by rw [← hh, Bd.state]; rfl
  have N0 := Fr.nil n0
  have K0 : Keep h0 h0 [a1, b1, b2, b3] := Keep.refl h0 _
  refine own_go (B := s₁.setTop (mkF m 0 #[.val (.ref a1), .val (.int p2), .val (.int p3), .val (.int p4), .unset, .unset, .unset, .unset, .unset] [])) (fun t k => castTop (efrm14_3 m a1 p2 p3 p4) k) ?_
  have join250 : ∀ (z4 : Int32) (zA : Int32) (zB : Int32) (Tq250 : State) (Lq250 : List Loc), own_pair ns n 3 p2 p3 p4 zA zB → Stand p l e ({ frames := 1, cells := 0, slots := 0, locals := 15 } : Room) s m #[(.ref a1), (.int p2), (.int p3), (.int p4)] below meth c Tq250 Lq250 0 0 → Tq250.heap = h0 → Fr n0 Lq250 → ∃ s₂ o, Steps p.tables e below (Tq250.setTop (mkF m 44 #[.val (.ref a1), .val (.int p2), .val (.int p3), .val (.int p4), .val (.int z4), .val (.int zA), .val (.int zB), .unset, .unset] [])) s₂ ∧ s₂.status = .running ∧ Ended s₂ below o ∧ ∃ v L, o = .returned v ∧ Qrm14_3 Z a1 p2 p3 p4 b1 b2 b3 k1 k2 k3 ns bs cs sz cp n h0 n0 v s₂.heap L ∧ FrameEnd s o s₂ L ({ frames := 1, cells := 0, slots := 0, locals := 15 } : Room).cells ({ frames := 1, cells := 0, slots := 0, locals := 15 } : Room).slots := by
    intro z4 zA zB Tq250 Lq250 qP Xq250 eq250 Nq250
    refine own_go (B := Tq250.setTop (mkF m 49 #[.val (.ref a1), .val (.int p2), .val (.int p3), .val (.int p4), .val (.int z4), .val (.int zA), .val (.int zB), .unset, .unset] [(.int zB), (.int zA), (.int p2)])) (fun t k => ?_) ?_
    · refine XS.iloadN Xq250.here hx rfl (hb hby d14_44) rfl ?_
      refine XS.iload Xq250.here hx rfl (hb hby d14_45) rfl ?_
      refine XS.iload Xq250.here hx rfl (hb hby d14_47) rfl ?_
      exact k
    obtain ⟨_, _, ⟨T251, L251, k251, n251⟩, -, X251, ⟨Lc251, hQ251, l251, y251, z251⟩, st251⟩ := Jvm.LawKit.callS Xq250 hx (y := (⟨OB, "terminal", "(III)I"⟩ : MethodName)) hown (mvT hZ (own_w hw 86 rfl)) (mvT hZ (own_w hw 87 rfl)) (mvT hZ (own_w hw 5 rfl)) (mvT hZ (own_w hw 88 rfl)) (by decide) (backOf (W := 0) (rm16 l Z a0 hw [] p2 zA zB h0 n0 Z0 ) hZ (own_w hw 88 rfl) (own_w hw 5 rfl) (by decide) (by decide)) (g := (mkF m 49 #[.val (.ref a1), .val (.int p2), .val (.int p3), .val (.int p4), .val (.int z4), .val (.int zA), .val (.int zB), .unset, .unset] [(.int zB), (.int zA), (.int p2)])) rfl (by rw [hml]; rfl) (argsL := [(.int p2), (.int zA), (.int zB)]) (rest := []) (lenOf pd_4 rfl) rfl (by show 2 * 0 + _ ≤ _; exact Nat.le_of_eq rfl) (hb hby d14_49) (fun _ _ => ⟨rfl, eq250, (by decide : 0 + 0 ≤ _), (by decide : 0 + 0 ≤ _)⟩)
    dsimp only [Pt.U, Pt.locs, Pt.cells, Pt.slots] at X251 l251 y251 z251 st251 hQ251
    subst l251 y251 z251
    obtain ⟨rfl, Nq251, e251⟩ := hQ251
    have N251 := Fr.app Nq250 Nq251
    refine own_go (B := T251.setTop (mkF m 52 #[.val (.ref a1), .val (.int p2), .val (.int p3), .val (.int p4), .val (.int z4), .val (.int zA), .val (.int zB), .unset, .unset] [(.int (own_term p2 zA zB))])) st251 ?_
    refine own_go (B := T251.setTop (mkF m 56 #[.val (.ref a1), .val (.int p2), .val (.int p3), .val (.int p4), .val (.int z4), .val (.int zA), .val (.int zB), .val (.int (own_term p2 zA zB)), .unset] [(.int (own_term p2 zA zB))])) (fun t k => ?_) ?_
    · refine XS.istore X251.here hx rfl (hb hby d14_52) rfl (l' := #[.val (.ref a1), .val (.int p2), .val (.int p3), .val (.int p4), .val (.int z4), .val (.int zA), .val (.int zB), .val (.int (own_term p2 zA zB)), .unset]) rfl ?_
      refine XS.iload X251.here hx rfl (hb hby d14_54) rfl ?_
      exact k
    by_cases hc56_252 : (own_term p2 zA zB) < (0 : Int32)
    · exact absurd hc56_252 (own_term_const qI.1 qo qP)
    · refine own_go (B := T251.setTop (mkF m 159 #[.val (.ref a1), .val (.int p2), .val (.int p3), .val (.int p4), .val (.int z4), .val (.int zA), .val (.int zB), .val (.int (own_term p2 zA zB)), .unset] [])) (fun t k => ?_) ?_
      · refine XS.ifYes X251.here hx rfl (pc0 := 56) (pc' := 159) rfl (hb hby d14_56) rfl ((if0 _ _).trans (flt hc56_252).2.1) (by decide) (by decide) ?_
        exact k
      refine own_go (B := T251.setTop (mkF m 161 #[.val (.ref a1), .val (.int p2), .val (.int p3), .val (.int p4), .val (.int z4), .val (.int zA), .val (.int zB), .val (.int (own_term p2 zA zB)), .unset] [(.int (own_term p2 zA zB))])) (fun t k => ?_) ?_
      · refine XS.iload X251.here hx rfl (hb hby d14_159) rfl ?_
        exact k
      obtain ⟨fs, hr, hrun, hended, hW, hsame⟩ := X251.leave (v := some (.int (own_term p2 zA zB))) (fun h => by rw [Bd.returns] at h; cases h)
      refine ⟨_, _, ?_, hrun, hended, _, _, rfl, ?_, ⟨_, rfl⟩, hW, hsame.mono (by decide) (by decide)⟩
      · show Steps p.tables e below (T251.setTop (mkF m 161 #[.val (.ref a1), .val (.int p2), .val (.int p3), .val (.int p4), .val (.int z4), .val (.int zA), .val (.int zB), .val (.int (own_term p2 zA zB)), .unset] [(.int (own_term p2 zA zB))])) _
        exact retOut X251 hx Bd.returns rfl (Or.inl ⟨rfl, Or.inl rfl, _, rfl⟩) (hb hby d14_161) hr
      · show Qrm14_3 Z a1 p2 p3 p4 b1 b2 b3 k1 k2 k3 ns bs cs sz cp n h0 n0 _ T251.heap _
        rw [e251]
        exact ⟨ns, bs, cs, sz, cp, n, (own_term p2 zA zB), rfl, N251, K0, P0, P1, P2, P3, P4, P5, P6, P7, P8, P9, P10, P11, own_ap_term qI qs qo qP hc56_252⟩
  refine own_go (B := s₁.setTop (mkF m 2 #[.val (.ref a1), .val (.int p2), .val (.int p3), .val (.int p4), .unset, .unset, .unset, .unset, .unset] [(.int (5 : Int32)), (.int p2)])) (fun t k => ?_) ?_
  · refine XS.iloadN X0.here hx rfl (hb hby d14_0) rfl ?_
    refine XS.iconst X0.here hx rfl (hb hby d14_1) ?_
    exact k
  by_cases hc2_253 : p2 = (5 : Int32)
  · refine own_go (B := s₁.setTop (mkF m 5 #[.val (.ref a1), .val (.int p2), .val (.int p3), .val (.int p4), .unset, .unset, .unset, .unset, .unset] [])) (fun t k => ?_) ?_
    · refine XS.icmpNo X0.here hx rfl (hb hby d14_2) rfl (teq hc2_253).2 ?_
      exact k
    refine own_go (B := s₁.setTop (mkF m 44 #[.val (.ref a1), .val (.int p2), .val (.int p3), .val (.int p4), .val (.int (1 : Int32)), .val (.int p3), .val (.int p4), .unset, .unset] [])) (fun t k => ?_) ?_
    · refine XS.iconst X0.here hx rfl (hb hby d14_5) ?_
      refine XS.goto X0.here hx rfl (pc0 := 6) (pc' := 10) rfl (hb hby d14_6) (by decide) (by decide) ?_
      refine XS.istore X0.here hx rfl (hb hby d14_10) rfl (l' := #[.val (.ref a1), .val (.int p2), .val (.int p3), .val (.int p4), .val (.int (1 : Int32)), .unset, .unset, .unset, .unset]) rfl ?_
      refine XS.iload X0.here hx rfl (hb hby d14_12) rfl ?_
      refine XS.ifNo X0.here hx rfl (hb hby d14_14) rfl ((if0 _ _).trans (feq (by decide : ¬ ((1 : Int32) = (0 : Int32)))).1) ?_
      refine XS.iloadN X0.here hx rfl (hb hby d14_17) rfl ?_
      refine XS.goto X0.here hx rfl (pc0 := 18) (pc' := 26) rfl (hb hby d14_18) (by decide) (by decide) ?_
      refine XS.istore X0.here hx rfl (hb hby d14_26) rfl (l' := #[.val (.ref a1), .val (.int p2), .val (.int p3), .val (.int p4), .val (.int (1 : Int32)), .val (.int p3), .unset, .unset, .unset]) rfl ?_
      refine XS.iload X0.here hx rfl (hb hby d14_28) rfl ?_
      refine XS.ifNo X0.here hx rfl (hb hby d14_30) rfl ((if0 _ _).trans (feq (by decide : ¬ ((1 : Int32) = (0 : Int32)))).1) ?_
      refine XS.iloadN X0.here hx rfl (hb hby d14_33) rfl ?_
      refine XS.goto X0.here hx rfl (pc0 := 34) (pc' := 42) rfl (hb hby d14_34) (by decide) (by decide) ?_
      refine XS.istore X0.here hx rfl (hb hby d14_42) rfl (l' := #[.val (.ref a1), .val (.int p2), .val (.int p3), .val (.int p4), .val (.int (1 : Int32)), .val (.int p3), .val (.int p4), .unset, .unset]) rfl ?_
      exact k
    exact join250 (1 : Int32) p3 p4 s₁ _ (own_pair_5 qa qb qda qdb hc2_253) X0 e0 N0
  · refine own_go (B := s₁.setTop (mkF m 9 #[.val (.ref a1), .val (.int p2), .val (.int p3), .val (.int p4), .unset, .unset, .unset, .unset, .unset] [])) (fun t k => ?_) ?_
    · refine XS.icmpYes X0.here hx rfl (pc0 := 2) (pc' := 9) rfl (hb hby d14_2) rfl (feq hc2_253).2 (by decide) (by decide) ?_
      exact k
    refine own_go (B := s₁.setTop (mkF m 23 #[.val (.ref a1), .val (.int p2), .val (.int p3), .val (.int p4), .val (.int (0 : Int32)), .unset, .unset, .unset, .unset] [(.int p4), (.int p3)])) (fun t k => ?_) ?_
    · refine XS.iconst X0.here hx rfl (hb hby d14_9) ?_
      refine XS.istore X0.here hx rfl (hb hby d14_10) rfl (l' := #[.val (.ref a1), .val (.int p2), .val (.int p3), .val (.int p4), .val (.int (0 : Int32)), .unset, .unset, .unset, .unset]) rfl ?_
      refine XS.iload X0.here hx rfl (hb hby d14_12) rfl ?_
      refine XS.ifYes X0.here hx rfl (pc0 := 14) (pc' := 21) rfl (hb hby d14_14) rfl ((if0 _ _).trans (teq (rfl : (0 : Int32) = (0 : Int32))).1) (by decide) (by decide) ?_
      refine XS.iloadN X0.here hx rfl (hb hby d14_21) rfl ?_
      refine XS.iloadN X0.here hx rfl (hb hby d14_22) rfl ?_
      exact k
    obtain ⟨_, _, ⟨T257, L257, k257, n257⟩, -, X257, ⟨Lc257, hQ257, l257, y257, z257⟩, st257⟩ := Jvm.LawKit.callS X0 hx (y := (⟨"java/lang/Math", "min", "(II)I"⟩ : MethodName)) hown (mvT hZ (own_w hw 16 rfl)) (mvT hZ (own_w hw 17 rfl)) (mvT hZ (own_w hw 18 rfl)) (mvT hZ (own_w hw 19 rfl)) (by decide) (backOf (W := 0) (rm3 l Z a0 hw [] p3 p4 h0 n0 Z0 ) hZ (own_w hw 19 rfl) (own_w hw 18 rfl) (by decide) (by decide)) (g := (mkF m 23 #[.val (.ref a1), .val (.int p2), .val (.int p3), .val (.int p4), .val (.int (0 : Int32)), .unset, .unset, .unset, .unset] [(.int p4), (.int p3)])) rfl (by rw [hml]; rfl) (argsL := [(.int p3), (.int p4)]) (rest := []) (lenOf pd_5 rfl) rfl (by show 2 * 0 + _ ≤ _; exact Nat.le_of_eq rfl) (hb hby d14_23) (fun _ _ => ⟨rfl, e0, (by decide : 0 + 0 ≤ _), (by decide : 0 + 0 ≤ _)⟩)
    dsimp only [Pt.U, Pt.locs, Pt.cells, Pt.slots] at X257 l257 y257 z257 st257 hQ257
    subst l257 y257 z257
    obtain ⟨rfl, Nq257, e257⟩ := hQ257
    have N257 := Fr.app N0 Nq257
    refine own_go (B := T257.setTop (mkF m 26 #[.val (.ref a1), .val (.int p2), .val (.int p3), .val (.int p4), .val (.int (0 : Int32)), .unset, .unset, .unset, .unset] [(.int (frm3 p3 p4))])) st257 ?_
    refine own_go (B := T257.setTop (mkF m 39 #[.val (.ref a1), .val (.int p2), .val (.int p3), .val (.int p4), .val (.int (0 : Int32)), .val (.int (frm3 p3 p4)), .unset, .unset, .unset] [(.int p4), (.int p3)])) (fun t k => ?_) ?_
    · refine XS.istore X257.here hx rfl (hb hby d14_26) rfl (l' := #[.val (.ref a1), .val (.int p2), .val (.int p3), .val (.int p4), .val (.int (0 : Int32)), .val (.int (frm3 p3 p4)), .unset, .unset, .unset]) rfl ?_
      refine XS.iload X257.here hx rfl (hb hby d14_28) rfl ?_
      refine XS.ifYes X257.here hx rfl (pc0 := 30) (pc' := 37) rfl (hb hby d14_30) rfl ((if0 _ _).trans (teq (rfl : (0 : Int32) = (0 : Int32))).1) (by decide) (by decide) ?_
      refine XS.iloadN X257.here hx rfl (hb hby d14_37) rfl ?_
      refine XS.iloadN X257.here hx rfl (hb hby d14_38) rfl ?_
      exact k
    obtain ⟨_, _, ⟨T259, L259, k259, n259⟩, -, X259, ⟨Lc259, hQ259, l259, y259, z259⟩, st259⟩ := Jvm.LawKit.callS X257 hx (y := (⟨"java/lang/Math", "max", "(II)I"⟩ : MethodName)) hown (mvT hZ (own_w hw 83 rfl)) (mvT hZ (own_w hw 84 rfl)) (mvT hZ (own_w hw 18 rfl)) (mvT hZ (own_w hw 85 rfl)) (by decide) (backOf (W := 0) (rm15 l Z a0 hw [] p3 p4 h0 n0 Z0 ) hZ (own_w hw 85 rfl) (own_w hw 18 rfl) (by decide) (by decide)) (g := (mkF m 39 #[.val (.ref a1), .val (.int p2), .val (.int p3), .val (.int p4), .val (.int (0 : Int32)), .val (.int (frm3 p3 p4)), .unset, .unset, .unset] [(.int p4), (.int p3)])) rfl (by rw [hml]; rfl) (argsL := [(.int p3), (.int p4)]) (rest := []) (lenOf pd_5 rfl) rfl (by show 2 * 0 + _ ≤ _; exact Nat.le_of_eq rfl) (hb hby d14_39) (fun _ _ => ⟨rfl, e257, (by decide : 0 + 0 ≤ _), (by decide : 0 + 0 ≤ _)⟩)
    dsimp only [Pt.U, Pt.locs, Pt.cells, Pt.slots] at X259 l259 y259 z259 st259 hQ259
    subst l259 y259 z259
    obtain ⟨rfl, Nq259, e259⟩ := hQ259
    have N259 := Fr.app N257 Nq259
    refine own_go (B := T259.setTop (mkF m 42 #[.val (.ref a1), .val (.int p2), .val (.int p3), .val (.int p4), .val (.int (0 : Int32)), .val (.int (frm3 p3 p4)), .unset, .unset, .unset] [(.int (frm15 p3 p4))])) st259 ?_
    refine own_go (B := T259.setTop (mkF m 44 #[.val (.ref a1), .val (.int p2), .val (.int p3), .val (.int p4), .val (.int (0 : Int32)), .val (.int (frm3 p3 p4)), .val (.int (frm15 p3 p4)), .unset, .unset] [])) (fun t k => ?_) ?_
    · refine XS.istore X259.here hx rfl (hb hby d14_42) rfl (l' := #[.val (.ref a1), .val (.int p2), .val (.int p3), .val (.int p4), .val (.int (0 : Int32)), .val (.int (frm3 p3 p4)), .val (.int (frm15 p3 p4)), .unset, .unset]) rfl ?_
      exact k
    exact join250 (0 : Int32) (frm3 p3 p4) (frm15 p3 p4) T259 _ (own_pair_mm qo qa qb qda qdb hc2_253) X259 e259 N259
def Qrm14_2 (Z : State) (a1 : Addr) (p2 : Int32) (p3 : Int32) (p4 : Int32) (b1 : Addr) (b2 : Addr) (b3 : Addr) (k1 : ClassId) (k2 : ClassId) (k3 : ClassId) (ns : List Int32) (bs : List Int32) (cs : List Int32) (sz : Int32) (cp : Int64) (n : Nat) (h0 : Heap) (n0 : Nat) (v : Option Value) (h : Heap) (L : List Loc) : Prop := ∃ ns' : List Int32, ∃ bs' : List Int32, ∃ cs' : List Int32, ∃ sz' : Int32, ∃ cp' : Int64, ∃ n' : Nat, ∃ r' : Int32, v = some (.int r') ∧ Fr n0 L ∧ Keep h0 h [a1, b1, b2, b3] ∧ Exa Z h a1 OB ∧ Fld Z h a1 OB "variableCount" "I" (.int (3 : Int32)) ∧ Fld Z h a1 OB "maxComputations" "J" (.long (9223372036854775807 : Int64)) ∧ Fld Z h a1 OB "nodes" "[I" (.ref b1) ∧ Fld Z h a1 OB "buckets" "[I" (.ref b2) ∧ Fld Z h a1 OB "cacheBits" "I" (.int (10 : Int32)) ∧ Fld Z h a1 OB "cache" "[I" (.ref b3) ∧ Fld Z h a1 OB "size" "I" (.int sz') ∧ Fld Z h a1 OB "computations" "J" (.long cp') ∧ Arv Z h b1 k1 .int (256 : Int32) (own_I ns') (.int (0 : Int32)) ∧ Arv Z h b2 k2 .int (64 : Int32) (own_I bs') (.int (0 : Int32)) ∧ Arv Z h b3 k3 .int (4096 : Int32) (own_I cs') (.int (0 : Int32)) ∧ (own_AP 1 ns n cp p2 p3 p4 ns' bs' cs' sz' cp' n' r')
theorem efrm14_2 (m : MethodId) (x0 : Addr) (x1 : Int32) (x2 : Int32) (x3 : Int32) : entryFrame m #[(.ref x0), (.int x1), (.int x2), (.int x3)] 9 = mkF m 0 #[.val (.ref x0), .val (.int x1), .val (.int x2), .val (.int x3), .unset, .unset, .unset, .unset, .unset] [] := by first | (simp [entryFrame, mkF, argsToLocals, Value.category]; done) | rfl
set_option maxRecDepth 65536 in
set_option maxHeartbeats 40000000 in
theorem rm14_2 (l : Launch) (Z : State) (a0 : Array Value) (hw : ∀ d ∈ tables_1, d.before a0 Z = true) (ws : List Jvm.Cond) (a1 : Addr) (p2 : Int32) (p3 : Int32) (p4 : Int32) (b1 : Addr) (b2 : Addr) (b3 : Addr) (k1 : ClassId) (k2 : ClassId) (k3 : ClassId) (ns : List Int32) (bs : List Int32) (cs : List Int32) (sz : Int32) (cp : Int64) (n : Nat) (h0 : Heap) (n0 : Nat) (Z0 : n0 ≤ h0.size) (P0 : Exa Z h0 a1 OB) (P1 : Fld Z h0 a1 OB "variableCount" "I" (.int (3 : Int32))) (P2 : Fld Z h0 a1 OB "maxComputations" "J" (.long (9223372036854775807 : Int64))) (P3 : Fld Z h0 a1 OB "nodes" "[I" (.ref b1)) (P4 : Fld Z h0 a1 OB "buckets" "[I" (.ref b2)) (P5 : Fld Z h0 a1 OB "cacheBits" "I" (.int (10 : Int32))) (P6 : Fld Z h0 a1 OB "cache" "[I" (.ref b3)) (P7 : Fld Z h0 a1 OB "size" "I" (.int sz)) (P8 : Fld Z h0 a1 OB "computations" "J" (.long cp)) (P9 : Arv Z h0 b1 k1 .int (256 : Int32) (own_I ns) (.int (0 : Int32))) (P10 : Arv Z h0 b2 k2 .int (64 : Int32) (own_I bs) (.int (0 : Int32))) (P11 : Arv Z h0 b3 k3 .int (4096 : Int32) (own_I cs) (.int (0 : Int32))) (g_a1 : n0 ≤ a1) (g_b1 : n0 ≤ b1) (g_b2 : n0 ≤ b2) (g_b3 : n0 ≤ b3) (ne_a1_b1 : a1 ≠ b1) (ne_a1_b2 : a1 ≠ b2) (ne_a1_b3 : a1 ≠ b3) (ne_b1_b2 : b1 ≠ b2) (ne_b1_b3 : b1 ≠ b3) (ne_b2_b3 : b2 ≠ b3) (qI : own_Inv ns bs cs n) (qs : sz.toInt = (n : Int)) (qw : n + 1 ≤ 64) (qc : 0 ≤ cp.toInt ∧ cp.toInt + 1 ≤ 1000) (qo : p2 = (0 : Int32) ∨ p2 = (1 : Int32) ∨ p2 = (2 : Int32) ∨ p2 = (5 : Int32)) (qa : 0 ≤ p3.toInt ∧ p3.toInt < n) (qb : 0 ≤ p4.toInt ∧ p4.toInt < n) (qda : 2 ≤ own_vr ns p3.toInt.toNat) (qdb : 2 ≤ own_vr ns p4.toInt.toNat) :
    MetFree l (⟨OB, "apply", "(III)I"⟩ : MethodName) (head1 (Jvm.Cond.code (⟨OB, "apply", "(III)I"⟩ : MethodName) prog_103_method_19_code 9 (some .int) :: ws) ({ frames := 3, cells := 0, slots := 0, locals := 51 } : Room)) (fun a U => a = #[(.ref a1), (.int p2), (.int p3), (.int p4)] ∧ Z.Warmed39 U.vm ∧ U.heap = h0) (fun _ _ _ _ _ => True) (fun _ U o U' => ∃ v L, o = .returned v ∧ Qrm14_2 Z a1 p2 p3 p4 b1 b2 b3 k1 k2 k3 ns bs cs sz cp n h0 n0 v U'.heap L ∧ FrameEnd U o U' L ({ frames := 3, cells := 0, slots := 0, locals := 51 } : Room).cells ({ frames := 3, cells := 0, slots := 0, locals := 51 } : Room).slots) := by
  refine MetFree.of_bodySF (plainFor_of_name pn_0) hisR ?_
  intro p e s m args below meth c s₁ Bd hml0 hP hK
  obtain ⟨rfl, hZ, hh⟩ := hP
  have hx := Bd.exec
  have hby := Bd.bytes
  have hml : c.maxLocals = 9 := hml0
  have hown : s.vm.findClass OB = some m.cls := findClass_of_methodNamed Bd.named
  have hnm := (name_of_methodNamed Bd.named Bd.method).1
  have X0 : Stand p l e ({ frames := 3, cells := 0, slots := 0, locals := 51 } : Room) s m #[(.ref a1), (.int p2), (.int p3), (.int p4)] below meth c s₁ [] 0 0 := Stand.of_body Bd
  have e0 : s₁.heap = h0 := by rw [← hh, Bd.state]; rfl
  have N0 := Fr.nil n0
  have K0 : Keep h0 h0 [a1, b1, b2, b3] := Keep.refl h0 _
  refine own_go (B := s₁.setTop (mkF m 0 #[.val (.ref a1), .val (.int p2), .val (.int p3), .val (.int p4), .unset, .unset, .unset, .unset, .unset] [])) (fun t k => castTop (efrm14_2 m a1 p2 p3 p4) k) ?_
  have join260 : ∀ (z4 : Int32) (zA : Int32) (zB : Int32) (Tq260 : State) (Lq260 : List Loc), own_pair ns n 2 p2 p3 p4 zA zB → Stand p l e ({ frames := 3, cells := 0, slots := 0, locals := 51 } : Room) s m #[(.ref a1), (.int p2), (.int p3), (.int p4)] below meth c Tq260 Lq260 0 0 → Tq260.heap = h0 → Fr n0 Lq260 → ∃ s₂ o, Steps p.tables e below (Tq260.setTop (mkF m 44 #[.val (.ref a1), .val (.int p2), .val (.int p3), .val (.int p4), .val (.int z4), .val (.int zA), .val (.int zB), .unset, .unset] [])) s₂ ∧ s₂.status = .running ∧ Ended s₂ below o ∧ ∃ v L, o = .returned v ∧ Qrm14_2 Z a1 p2 p3 p4 b1 b2 b3 k1 k2 k3 ns bs cs sz cp n h0 n0 v s₂.heap L ∧ FrameEnd s o s₂ L ({ frames := 3, cells := 0, slots := 0, locals := 51 } : Room).cells ({ frames := 3, cells := 0, slots := 0, locals := 51 } : Room).slots := by
    intro z4 zA zB Tq260 Lq260 qP Xq260 eq260 Nq260
    refine own_go (B := Tq260.setTop (mkF m 49 #[.val (.ref a1), .val (.int p2), .val (.int p3), .val (.int p4), .val (.int z4), .val (.int zA), .val (.int zB), .unset, .unset] [(.int zB), (.int zA), (.int p2)])) (fun t k => ?_) ?_
    · refine XS.iloadN Xq260.here hx rfl (hb hby d14_44) rfl ?_
      refine XS.iload Xq260.here hx rfl (hb hby d14_45) rfl ?_
      refine XS.iload Xq260.here hx rfl (hb hby d14_47) rfl ?_
      exact k
    obtain ⟨_, _, ⟨T261, L261, k261, n261⟩, -, X261, ⟨Lc261, hQ261, l261, y261, z261⟩, st261⟩ := Jvm.LawKit.callS Xq260 hx (y := (⟨OB, "terminal", "(III)I"⟩ : MethodName)) hown (mvT hZ (own_w hw 86 rfl)) (mvT hZ (own_w hw 87 rfl)) (mvT hZ (own_w hw 5 rfl)) (mvT hZ (own_w hw 88 rfl)) (by decide) (backOf (W := 0) (rm16 l Z a0 hw [] p2 zA zB h0 n0 Z0 ) hZ (own_w hw 88 rfl) (own_w hw 5 rfl) (by decide) (by decide)) (g := (mkF m 49 #[.val (.ref a1), .val (.int p2), .val (.int p3), .val (.int p4), .val (.int z4), .val (.int zA), .val (.int zB), .unset, .unset] [(.int zB), (.int zA), (.int p2)])) rfl (by rw [hml]; rfl) (argsL := [(.int p2), (.int zA), (.int zB)]) (rest := []) (lenOf pd_4 rfl) rfl (by show 2 * 0 + _ ≤ _; exact Nat.le_of_eq rfl) (hb hby d14_49) (fun _ _ => ⟨rfl, eq260, (by decide : 0 + 0 ≤ _), (by decide : 0 + 0 ≤ _)⟩)
    dsimp only [Pt.U, Pt.locs, Pt.cells, Pt.slots] at X261 l261 y261 z261 st261 hQ261
    subst l261 y261 z261
    obtain ⟨rfl, Nq261, e261⟩ := hQ261
    have N261 := Fr.app Nq260 Nq261
    refine own_go (B := T261.setTop (mkF m 52 #[.val (.ref a1), .val (.int p2), .val (.int p3), .val (.int p4), .val (.int z4), .val (.int zA), .val (.int zB), .unset, .unset] [(.int (own_term p2 zA zB))])) st261 ?_
    refine own_go (B := T261.setTop (mkF m 56 #[.val (.ref a1), .val (.int p2), .val (.int p3), .val (.int p4), .val (.int z4), .val (.int zA), .val (.int zB), .val (.int (own_term p2 zA zB)), .unset] [(.int (own_term p2 zA zB))])) (fun t k => ?_) ?_
    · refine XS.istore X261.here hx rfl (hb hby d14_52) rfl (l' := #[.val (.ref a1), .val (.int p2), .val (.int p3), .val (.int p4), .val (.int z4), .val (.int zA), .val (.int zB), .val (.int (own_term p2 zA zB)), .unset]) rfl ?_
      refine XS.iload X261.here hx rfl (hb hby d14_54) rfl ?_
      exact k
    by_cases hc56_262 : (own_term p2 zA zB) < (0 : Int32)
    · refine own_go (B := T261.setTop (mkF m 59 #[.val (.ref a1), .val (.int p2), .val (.int p3), .val (.int p4), .val (.int z4), .val (.int zA), .val (.int zB), .val (.int (own_term p2 zA zB)), .unset] [])) (fun t k => ?_) ?_
      · refine XS.ifNo X261.here hx rfl (hb hby d14_56) rfl ((if0 _ _).trans (tlt hc56_262).2.1) ?_
        exact k
      refine own_go (B := T261.setTop (mkF m 66 #[.val (.ref a1), .val (.int p2), .val (.int p3), .val (.int p4), .val (.int z4), .val (.int zA), .val (.int zB), .val (.int (own_term p2 zA zB)), .unset] [(.int (0 : Int32)), (.int zB), (.int zA), (.int p2), (.ref a1)])) (fun t k => ?_) ?_
      · refine XS.aloadN X261.here hx rfl (hb hby d14_59) rfl rfl ?_
        refine XS.iloadN X261.here hx rfl (hb hby d14_60) rfl ?_
        refine XS.iload X261.here hx rfl (hb hby d14_61) rfl ?_
        refine XS.iload X261.here hx rfl (hb hby d14_63) rfl ?_
        refine XS.iconst X261.here hx rfl (hb hby d14_65) ?_
        exact k
      obtain ⟨cq263, q263, q263'⟩ := P0.cell
      obtain ⟨_, _, ⟨T263, L263, k263, n263⟩, -, X263, ⟨Lc263, hQ263, l263, y263, z263⟩, st263⟩ := X261.privateBack hx (y := (⟨OB, "cached", "(IIII)I"⟩ : MethodName)) hown (mvT hZ (own_w hw 94 rfl)) (mvT hZ (own_w hw 95 rfl)) (own_selp (mvT hZ (own_w hw 50 rfl)) rfl (Cond.privateMethod_at (mvP hZ (own_w hw 96 rfl) (args := #[]))) (mvT hZ (own_w hw 95 rfl)) (by decide)) (Cond.privateMethod_at (mvP hZ (own_w hw 96 rfl) (args := #[]))) (mvT hZ (own_w hw 97 rfl)) (by decide) (backOf (W := 0) (rm18 l Z a0 hw [] a1 p2 zA zB b3 k3 cs h0 n0 Z0 P0 P5 P6 P11) hZ (own_w hw 97 rfl) (own_w hw 5 rfl) (by decide) (by decide)) (g := (mkF m 66 #[.val (.ref a1), .val (.int p2), .val (.int p3), .val (.int p4), .val (.int z4), .val (.int zA), .val (.int zB), .val (.int (own_term p2 zA zB)), .unset] [(.int (0 : Int32)), (.int zB), (.int zA), (.int p2), (.ref a1)])) rfl (by rw [hml]; rfl) (Steps.refl _) (a := a1) (by rw [e261]; exact q263) q263' (argsL := [(.int p2), (.int zA), (.int zB), (.int (0 : Int32))]) (rest := []) (lenOf pd_0 rfl) rfl (by show 2 * 0 + _ ≤ _; exact Nat.le_of_eq rfl) (hb hby d14_66) (fun _ _ => ⟨rfl, e261, (by decide : 0 + 0 ≤ _), (by decide : 0 + 0 ≤ _)⟩)
      dsimp only [Pt.U, Pt.locs, Pt.cells, Pt.slots] at X263 l263 y263 z263 st263 hQ263
      subst l263 y263 z263
      obtain ⟨rfl, Nq263, e263⟩ := hQ263
      have N263 := Fr.app N261 Nq263
      refine own_go (B := T263.setTop (mkF m 69 #[.val (.ref a1), .val (.int p2), .val (.int p3), .val (.int p4), .val (.int z4), .val (.int zA), .val (.int zB), .val (.int (own_term p2 zA zB)), .unset] [(.int (frm18 p2 zA zB cs))])) (fun t k => st263.trans k) ?_
      refine own_go (B := T263.setTop (mkF m 73 #[.val (.ref a1), .val (.int p2), .val (.int p3), .val (.int p4), .val (.int z4), .val (.int zA), .val (.int zB), .val (.int (frm18 p2 zA zB cs)), .unset] [(.int (frm18 p2 zA zB cs))])) (fun t k => ?_) ?_
      · refine XS.istore X263.here hx rfl (hb hby d14_69) rfl (l' := #[.val (.ref a1), .val (.int p2), .val (.int p3), .val (.int p4), .val (.int z4), .val (.int zA), .val (.int zB), .val (.int (frm18 p2 zA zB cs)), .unset]) rfl ?_
        refine XS.iload X263.here hx rfl (hb hby d14_71) rfl ?_
        exact k
      by_cases hc73_264 : (frm18 p2 zA zB cs) < (0 : Int32)
      · refine own_go (B := T263.setTop (mkF m 76 #[.val (.ref a1), .val (.int p2), .val (.int p3), .val (.int p4), .val (.int z4), .val (.int zA), .val (.int zB), .val (.int (frm18 p2 zA zB cs)), .unset] [])) (fun t k => ?_) ?_
        · refine XS.ifNo X263.here hx rfl (hb hby d14_73) rfl ((if0 _ _).trans (tlt hc73_264).2.1) ?_
          exact k
        refine own_go (B := T263.setTop (mkF m 79 #[.val (.ref a1), .val (.int p2), .val (.int p3), .val (.int p4), .val (.int z4), .val (.int zA), .val (.int zB), .val (.int (frm18 p2 zA zB cs)), .unset] [(.int zA), (.ref a1)])) (fun t k => ?_) ?_
        · refine XS.aloadN X263.here hx rfl (hb hby d14_76) rfl rfl ?_
          refine XS.iload X263.here hx rfl (hb hby d14_77) rfl ?_
          exact k
        obtain ⟨cq265, q265, q265'⟩ := P0.cell
        obtain ⟨_, _, ⟨T265, L265, k265, n265⟩, -, X265, ⟨Lc265, hQ265, l265, y265, z265⟩, st265⟩ := X263.privateBack hx (y := (⟨OB, "variableOf", "(I)I"⟩ : MethodName)) hown (mvT hZ (own_w hw 102 rfl)) (mvT hZ (own_w hw 103 rfl)) (own_selp (mvT hZ (own_w hw 50 rfl)) rfl (Cond.privateMethod_at (mvP hZ (own_w hw 104 rfl) (args := #[]))) (mvT hZ (own_w hw 103 rfl)) (by decide)) (Cond.privateMethod_at (mvP hZ (own_w hw 104 rfl) (args := #[]))) (mvT hZ (own_w hw 105 rfl)) (by decide) (backOf (W := 0) (rm20 l Z a0 hw [] a1 zA b1 k1 ns (zA.toInt.toNat) h0 n0 Z0 P3 P9 (own_nn qP.1.1) (by have := qI.1.2.2.1; have := qP.1; have := qP.2.1; omega)) hZ (own_w hw 105 rfl) (own_w hw 5 rfl) (by decide) (by decide)) (g := (mkF m 79 #[.val (.ref a1), .val (.int p2), .val (.int p3), .val (.int p4), .val (.int z4), .val (.int zA), .val (.int zB), .val (.int (frm18 p2 zA zB cs)), .unset] [(.int zA), (.ref a1)])) rfl (by rw [hml]; rfl) (Steps.refl _) (a := a1) (by rw [e263]; exact q265) q265' (argsL := [(.int zA)]) (rest := []) (lenOf pd_2 rfl) rfl (by show 2 * 0 + _ ≤ _; exact Nat.le_of_eq rfl) (hb hby d14_79) (fun _ _ => ⟨rfl, e263, (by decide : 0 + 0 ≤ _), (by decide : 0 + 0 ≤ _)⟩)
        dsimp only [Pt.U, Pt.locs, Pt.cells, Pt.slots] at X265 l265 y265 z265 st265 hQ265
        subst l265 y265 z265
        obtain ⟨rfl, Nq265, e265⟩ := hQ265
        have N265 := Fr.app N263 Nq265
        refine own_go (B := T265.setTop (mkF m 82 #[.val (.ref a1), .val (.int p2), .val (.int p3), .val (.int p4), .val (.int z4), .val (.int zA), .val (.int zB), .val (.int (frm18 p2 zA zB cs)), .unset] [(.int (ns.getD (4 * (zA.toInt.toNat)) 0))])) (fun t k => st265.trans k) ?_
        refine own_go (B := T265.setTop (mkF m 85 #[.val (.ref a1), .val (.int p2), .val (.int p3), .val (.int p4), .val (.int z4), .val (.int zA), .val (.int zB), .val (.int (frm18 p2 zA zB cs)), .unset] [(.int zB), (.ref a1), (.int (ns.getD (4 * (zA.toInt.toNat)) 0))])) (fun t k => ?_) ?_
        · refine XS.aloadN X265.here hx rfl (hb hby d14_82) rfl rfl ?_
          refine XS.iload X265.here hx rfl (hb hby d14_83) rfl ?_
          exact k
        obtain ⟨cq266, q266, q266'⟩ := P0.cell
        obtain ⟨_, _, ⟨T266, L266, k266, n266⟩, -, X266, ⟨Lc266, hQ266, l266, y266, z266⟩, st266⟩ := X265.privateBack hx (y := (⟨OB, "variableOf", "(I)I"⟩ : MethodName)) hown (mvT hZ (own_w hw 102 rfl)) (mvT hZ (own_w hw 103 rfl)) (own_selp (mvT hZ (own_w hw 50 rfl)) rfl (Cond.privateMethod_at (mvP hZ (own_w hw 104 rfl) (args := #[]))) (mvT hZ (own_w hw 103 rfl)) (by decide)) (Cond.privateMethod_at (mvP hZ (own_w hw 104 rfl) (args := #[]))) (mvT hZ (own_w hw 105 rfl)) (by decide) (backOf (W := 1) (rm20 l Z a0 hw [] a1 zB b1 k1 ns (zB.toInt.toNat) h0 n0 Z0 P3 P9 (own_nn qP.2.1.1) (by have := qI.1.2.2.1; have := qP.1; have := qP.2.1; omega)) hZ (own_w hw 105 rfl) (own_w hw 5 rfl) (by decide) (by decide)) (g := (mkF m 85 #[.val (.ref a1), .val (.int p2), .val (.int p3), .val (.int p4), .val (.int z4), .val (.int zA), .val (.int zB), .val (.int (frm18 p2 zA zB cs)), .unset] [(.int zB), (.ref a1), (.int (ns.getD (4 * (zA.toInt.toNat)) 0))])) rfl (by rw [hml]; rfl) (Steps.refl _) (a := a1) (by rw [e265]; exact q266) q266' (argsL := [(.int zB)]) (rest := [(.int (ns.getD (4 * (zA.toInt.toNat)) 0))]) (lenOf pd_2 rfl) rfl (by show 2 * 0 + _ ≤ _; exact Nat.le_of_eq rfl) (hb hby d14_85) (fun _ _ => ⟨rfl, e265, (by decide : 0 + 0 ≤ _), (by decide : 0 + 0 ≤ _)⟩)
        dsimp only [Pt.U, Pt.locs, Pt.cells, Pt.slots] at X266 l266 y266 z266 st266 hQ266
        subst l266 y266 z266
        obtain ⟨rfl, Nq266, e266⟩ := hQ266
        have N266 := Fr.app N265 Nq266
        refine own_go (B := T266.setTop (mkF m 88 #[.val (.ref a1), .val (.int p2), .val (.int p3), .val (.int p4), .val (.int z4), .val (.int zA), .val (.int zB), .val (.int (frm18 p2 zA zB cs)), .unset] [(.int (ns.getD (4 * (zB.toInt.toNat)) 0)), (.int (ns.getD (4 * (zA.toInt.toNat)) 0))])) (fun t k => st266.trans k) ?_
        obtain ⟨_, _, ⟨T267, L267, k267, n267⟩, -, X267, ⟨Lc267, hQ267, l267, y267, z267⟩, st267⟩ := Jvm.LawKit.callS X266 hx (y := (⟨"java/lang/Math", "min", "(II)I"⟩ : MethodName)) hown (mvT hZ (own_w hw 16 rfl)) (mvT hZ (own_w hw 17 rfl)) (mvT hZ (own_w hw 18 rfl)) (mvT hZ (own_w hw 19 rfl)) (by decide) (backOf (W := 0) (rm3 l Z a0 hw [] (ns.getD (4 * (zA.toInt.toNat)) 0) (ns.getD (4 * (zB.toInt.toNat)) 0) h0 n0 Z0 ) hZ (own_w hw 19 rfl) (own_w hw 18 rfl) (by decide) (by decide)) (g := (mkF m 88 #[.val (.ref a1), .val (.int p2), .val (.int p3), .val (.int p4), .val (.int z4), .val (.int zA), .val (.int zB), .val (.int (frm18 p2 zA zB cs)), .unset] [(.int (ns.getD (4 * (zB.toInt.toNat)) 0)), (.int (ns.getD (4 * (zA.toInt.toNat)) 0))])) rfl (by rw [hml]; rfl) (argsL := [(.int (ns.getD (4 * (zA.toInt.toNat)) 0)), (.int (ns.getD (4 * (zB.toInt.toNat)) 0))]) (rest := []) (lenOf pd_5 rfl) rfl (by show 2 * 0 + _ ≤ _; exact Nat.le_of_eq rfl) (hb hby d14_88) (fun _ _ => ⟨rfl, e266, (by decide : 0 + 0 ≤ _), (by decide : 0 + 0 ≤ _)⟩)
        dsimp only [Pt.U, Pt.locs, Pt.cells, Pt.slots] at X267 l267 y267 z267 st267 hQ267
        subst l267 y267 z267
        obtain ⟨rfl, Nq267, e267⟩ := hQ267
        have N267 := Fr.app N266 Nq267
        refine own_go (B := T267.setTop (mkF m 91 #[.val (.ref a1), .val (.int p2), .val (.int p3), .val (.int p4), .val (.int z4), .val (.int zA), .val (.int zB), .val (.int (frm18 p2 zA zB cs)), .unset] [(.int (frm3 (ns.getD (4 * (zA.toInt.toNat)) 0) (ns.getD (4 * (zB.toInt.toNat)) 0)))])) st267 ?_
        refine own_go (B := T267.setTop (mkF m 93 #[.val (.ref a1), .val (.int p2), .val (.int p3), .val (.int p4), .val (.int z4), .val (.int zA), .val (.int zB), .val (.int (frm18 p2 zA zB cs)), .val (.int (frm3 (ns.getD (4 * (zA.toInt.toNat)) 0) (ns.getD (4 * (zB.toInt.toNat)) 0)))] [])) (fun t k => ?_) ?_
        · refine XS.istore X267.here hx rfl (hb hby d14_91) rfl (l' := #[.val (.ref a1), .val (.int p2), .val (.int p3), .val (.int p4), .val (.int z4), .val (.int zA), .val (.int zB), .val (.int (frm18 p2 zA zB cs)), .val (.int (frm3 (ns.getD (4 * (zA.toInt.toNat)) 0) (ns.getD (4 * (zB.toInt.toNat)) 0)))]) rfl ?_
          exact k
        have qT := own_top_spec qI.1 qo qP hc56_262
        dsimp only at qT
        obtain ⟨zt, h_zt⟩ : ∃ z, z = (frm3 (ns.getD (4 * (zA.toInt.toNat)) 0) (ns.getD (4 * (zB.toInt.toNat)) 0)) := ⟨_, rfl⟩
        rw [← h_zt] at qT ⊢
        have qA0 := own_cof qI.1 qP.1 qT.1 qT.2.1
        have qB0 := own_cof qI.1 qP.2.1 qT.1 qT.2.2.1
        refine own_go (B := T267.setTop (mkF m 104 #[.val (.ref a1), .val (.int p2), .val (.int p3), .val (.int p4), .val (.int z4), .val (.int zA), .val (.int zB), .val (.int (frm18 p2 zA zB cs)), .val (.int zt)] [(.int (0 : Int32)), (.int zt), (.int zA), (.ref a1), (.int p2), (.ref a1), (.int zt), (.ref a1)])) (fun t k => ?_) ?_
        · refine XS.aloadN X267.here hx rfl (hb hby d14_93) rfl rfl ?_
          refine XS.iload X267.here hx rfl (hb hby d14_94) rfl ?_
          refine XS.aloadN X267.here hx rfl (hb hby d14_96) rfl rfl ?_
          refine XS.iloadN X267.here hx rfl (hb hby d14_97) rfl ?_
          refine XS.aloadN X267.here hx rfl (hb hby d14_98) rfl rfl ?_
          refine XS.iload X267.here hx rfl (hb hby d14_99) rfl ?_
          refine XS.iload X267.here hx rfl (hb hby d14_101) rfl ?_
          refine XS.iconst X267.here hx rfl (hb hby d14_103) ?_
          exact k
        obtain ⟨cq268, q268, q268'⟩ := P0.cell
        obtain ⟨_, _, ⟨T268, L268, k268, n268⟩, -, X268, ⟨Lc268, hQ268, l268, y268, z268⟩, st268⟩ := X267.privateBack hx (y := (⟨OB, "cofactor", "(IIZ)I"⟩ : MethodName)) hown (mvT hZ (own_w hw 106 rfl)) (mvT hZ (own_w hw 107 rfl)) (own_selp (mvT hZ (own_w hw 50 rfl)) rfl (Cond.privateMethod_at (mvP hZ (own_w hw 108 rfl) (args := #[]))) (mvT hZ (own_w hw 107 rfl)) (by decide)) (Cond.privateMethod_at (mvP hZ (own_w hw 108 rfl) (args := #[]))) (mvT hZ (own_w hw 109 rfl)) (by decide) (backOf (W := 4) (rm21_0 l Z a0 hw [] a1 zA zt b1 k1 ns (zA.toInt.toNat) h0 n0 Z0 P0 P3 P9 (own_nn qP.1.1) (by have := qI.1.2.2.1; have := qP.1; have := qP.2.1; omega)) hZ (own_w hw 109 rfl) (own_w hw 5 rfl) (by decide) (by decide)) (g := (mkF m 104 #[.val (.ref a1), .val (.int p2), .val (.int p3), .val (.int p4), .val (.int z4), .val (.int zA), .val (.int zB), .val (.int (frm18 p2 zA zB cs)), .val (.int zt)] [(.int (0 : Int32)), (.int zt), (.int zA), (.ref a1), (.int p2), (.ref a1), (.int zt), (.ref a1)])) rfl (by rw [hml]; rfl) (Steps.refl _) (a := a1) (by rw [e267]; exact q268) q268' (argsL := [(.int zA), (.int zt), (.int (0 : Int32))]) (rest := [(.int p2), (.ref a1), (.int zt), (.ref a1)]) (lenOf pd_6 rfl) rfl (by show 2 * 0 + _ ≤ _; exact Nat.le_of_eq rfl) (hb hby d14_104) (fun _ _ => ⟨rfl, e267, (by decide : 0 + 0 ≤ _), (by decide : 0 + 0 ≤ _)⟩)
        dsimp only [Pt.U, Pt.locs, Pt.cells, Pt.slots] at X268 l268 y268 z268 st268 hQ268
        subst l268 y268 z268
        obtain ⟨rfl, Nq268, e268⟩ := hQ268
        have N268 := Fr.app N267 Nq268
        refine own_go (B := T268.setTop (mkF m 107 #[.val (.ref a1), .val (.int p2), .val (.int p3), .val (.int p4), .val (.int z4), .val (.int zA), .val (.int zB), .val (.int (frm18 p2 zA zB cs)), .val (.int zt)] [(.int (frm21_0 zA zt ns (zA.toInt.toNat))), (.int p2), (.ref a1), (.int zt), (.ref a1)])) (fun t k => st268.trans k) ?_
        obtain ⟨cA0, h_cA0⟩ : ∃ z, z = (frm21_0 zA zt ns (zA.toInt.toNat)) := ⟨_, rfl⟩
        rw [← h_cA0] at qA0 ⊢
        refine own_go (B := T268.setTop (mkF m 113 #[.val (.ref a1), .val (.int p2), .val (.int p3), .val (.int p4), .val (.int z4), .val (.int zA), .val (.int zB), .val (.int (frm18 p2 zA zB cs)), .val (.int zt)] [(.int (0 : Int32)), (.int zt), (.int zB), (.ref a1), (.int cA0), (.int p2), (.ref a1), (.int zt), (.ref a1)])) (fun t k => ?_) ?_
        · refine XS.aloadN X268.here hx rfl (hb hby d14_107) rfl rfl ?_
          refine XS.iload X268.here hx rfl (hb hby d14_108) rfl ?_
          refine XS.iload X268.here hx rfl (hb hby d14_110) rfl ?_
          refine XS.iconst X268.here hx rfl (hb hby d14_112) ?_
          exact k
        obtain ⟨cq269, q269, q269'⟩ := P0.cell
        obtain ⟨_, _, ⟨T269, L269, k269, n269⟩, -, X269, ⟨Lc269, hQ269, l269, y269, z269⟩, st269⟩ := X268.privateBack hx (y := (⟨OB, "cofactor", "(IIZ)I"⟩ : MethodName)) hown (mvT hZ (own_w hw 106 rfl)) (mvT hZ (own_w hw 107 rfl)) (own_selp (mvT hZ (own_w hw 50 rfl)) rfl (Cond.privateMethod_at (mvP hZ (own_w hw 108 rfl) (args := #[]))) (mvT hZ (own_w hw 107 rfl)) (by decide)) (Cond.privateMethod_at (mvP hZ (own_w hw 108 rfl) (args := #[]))) (mvT hZ (own_w hw 109 rfl)) (by decide) (backOf (W := 5) (rm21_0 l Z a0 hw [] a1 zB zt b1 k1 ns (zB.toInt.toNat) h0 n0 Z0 P0 P3 P9 (own_nn qP.2.1.1) (by have := qI.1.2.2.1; have := qP.1; have := qP.2.1; omega)) hZ (own_w hw 109 rfl) (own_w hw 5 rfl) (by decide) (by decide)) (g := (mkF m 113 #[.val (.ref a1), .val (.int p2), .val (.int p3), .val (.int p4), .val (.int z4), .val (.int zA), .val (.int zB), .val (.int (frm18 p2 zA zB cs)), .val (.int zt)] [(.int (0 : Int32)), (.int zt), (.int zB), (.ref a1), (.int cA0), (.int p2), (.ref a1), (.int zt), (.ref a1)])) rfl (by rw [hml]; rfl) (Steps.refl _) (a := a1) (by rw [e268]; exact q269) q269' (argsL := [(.int zB), (.int zt), (.int (0 : Int32))]) (rest := [(.int cA0), (.int p2), (.ref a1), (.int zt), (.ref a1)]) (lenOf pd_6 rfl) rfl (by show 2 * 0 + _ ≤ _; exact Nat.le_of_eq rfl) (hb hby d14_113) (fun _ _ => ⟨rfl, e268, (by decide : 0 + 0 ≤ _), (by decide : 0 + 0 ≤ _)⟩)
        dsimp only [Pt.U, Pt.locs, Pt.cells, Pt.slots] at X269 l269 y269 z269 st269 hQ269
        subst l269 y269 z269
        obtain ⟨rfl, Nq269, e269⟩ := hQ269
        have N269 := Fr.app N268 Nq269
        refine own_go (B := T269.setTop (mkF m 116 #[.val (.ref a1), .val (.int p2), .val (.int p3), .val (.int p4), .val (.int z4), .val (.int zA), .val (.int zB), .val (.int (frm18 p2 zA zB cs)), .val (.int zt)] [(.int (frm21_0 zB zt ns (zB.toInt.toNat))), (.int cA0), (.int p2), (.ref a1), (.int zt), (.ref a1)])) (fun t k => st269.trans k) ?_
        obtain ⟨cB0, h_cB0⟩ : ∃ z, z = (frm21_0 zB zt ns (zB.toInt.toNat)) := ⟨_, rfl⟩
        rw [← h_cB0] at qB0 ⊢
        obtain ⟨cq270, q270, q270'⟩ := P0.cell
        obtain ⟨_, _, ⟨T270, L270, k270, n270⟩, -, X270, ⟨Lc270, hQ270, l270, y270, z270⟩, st270⟩ := X269.privateBack hx (y := (⟨OB, "apply", "(III)I"⟩ : MethodName)) hown (mvT hZ (own_w hw 79 rfl)) (mvT hZ (own_w hw 80 rfl)) (own_selp (mvT hZ (own_w hw 50 rfl)) rfl (Cond.privateMethod_at (mvP hZ (own_w hw 81 rfl) (args := #[]))) (mvT hZ (own_w hw 80 rfl)) (by decide)) (Cond.privateMethod_at (mvP hZ (own_w hw 81 rfl) (args := #[]))) (mvT hZ (own_w hw 82 rfl)) (by decide) (backOf (W := 2) (rm14_3 l Z a0 hw [] a1 p2 cA0 cB0 b1 b2 b3 k1 k2 k3 ns bs cs sz cp n h0 n0 Z0 P0 P1 P2 P3 P4 P5 P6 P7 P8 P9 P10 P11 g_a1 g_b1 g_b2 g_b3 ne_a1_b1 ne_a1_b2 ne_a1_b3 ne_b1_b2 ne_b1_b3 ne_b2_b3 qI qs (by omega) (by omega) qo qA0.1.1 qB0.1.1 (own_dlt qT.2.2.2.2 qA0.1.2) (own_dlt qT.2.2.2.2 qB0.1.2)) hZ (own_w hw 82 rfl) (own_w hw 5 rfl) (by decide) (by decide)) (g := (mkF m 116 #[.val (.ref a1), .val (.int p2), .val (.int p3), .val (.int p4), .val (.int z4), .val (.int zA), .val (.int zB), .val (.int (frm18 p2 zA zB cs)), .val (.int zt)] [(.int cB0), (.int cA0), (.int p2), (.ref a1), (.int zt), (.ref a1)])) rfl (by rw [hml]; rfl) (Steps.refl _) (a := a1) (by rw [e269]; exact q270) q270' (argsL := [(.int p2), (.int cA0), (.int cB0)]) (rest := [(.int zt), (.ref a1)]) (lenOf pd_4 rfl) rfl (by show 2 * 0 + _ ≤ _; exact Nat.le_of_eq rfl) (hb hby d14_116) (fun _ _ => ⟨rfl, e269, (by decide : 0 + 0 ≤ _), (by decide : 0 + 0 ≤ _)⟩)
        dsimp only [Pt.U, Pt.locs, Pt.cells, Pt.slots] at X270 l270 y270 z270 st270 hQ270
        subst l270 y270 z270
        obtain ⟨ns'_270, bs'_270, cs'_270, sz'_270, cp'_270, n'_270, r'_270, rfl, Nq270, Kq270, U270_0, U270_1, U270_2, U270_3, U270_4, U270_5, U270_6, U270_7, U270_8, U270_9, U270_10, U270_11, Pq270_0⟩ := hQ270
        have Q271 : Exa Z T270.heap a1 OB := P0.keep Kq270
        have Z270 : n0 ≤ T270.heap.size := Nat.le_trans Z0 Kq270.1
        have K270 : Keep h0 T270.heap [a1, b1, b2, b3] := K0.trans Kq270 (allS (Or.inl (List.mem_of_getElem? (i := 0) rfl)) (allS (Or.inl (List.mem_of_getElem? (i := 1) rfl)) (allS (Or.inl (List.mem_of_getElem? (i := 2) rfl)) (allS (Or.inl (List.mem_of_getElem? (i := 3) rfl)) all0))))
        have N270 := Fr.app N269 Nq270
        refine own_go (B := T270.setTop (mkF m 119 #[.val (.ref a1), .val (.int p2), .val (.int p3), .val (.int p4), .val (.int z4), .val (.int zA), .val (.int zB), .val (.int (frm18 p2 zA zB cs)), .val (.int zt)] [(.int r'_270), (.int zt), (.ref a1)])) (fun t k => st270.trans k) ?_
        have qA1 := own_cof2 qI.1 Pq270_0.1.1 Pq270_0.2.2.1 Pq270_0.2.2.2.1 qP.1 qT.1 qT.2.1
        have qB1 := own_cof2 qI.1 Pq270_0.1.1 Pq270_0.2.2.1 Pq270_0.2.2.2.1 qP.2.1 qT.1 qT.2.2.1
        rw [← h_cA0] at qA1
        rw [← h_cB0] at qB1
        refine own_go (B := T270.setTop (mkF m 127 #[.val (.ref a1), .val (.int p2), .val (.int p3), .val (.int p4), .val (.int z4), .val (.int zA), .val (.int zB), .val (.int (frm18 p2 zA zB cs)), .val (.int zt)] [(.int (1 : Int32)), (.int zt), (.int zA), (.ref a1), (.int p2), (.ref a1), (.int r'_270), (.int zt), (.ref a1)])) (fun t k => ?_) ?_
        · refine XS.aloadN X270.here hx rfl (hb hby d14_119) rfl rfl ?_
          refine XS.iloadN X270.here hx rfl (hb hby d14_120) rfl ?_
          refine XS.aloadN X270.here hx rfl (hb hby d14_121) rfl rfl ?_
          refine XS.iload X270.here hx rfl (hb hby d14_122) rfl ?_
          refine XS.iload X270.here hx rfl (hb hby d14_124) rfl ?_
          refine XS.iconst X270.here hx rfl (hb hby d14_126) ?_
          exact k
        obtain ⟨cq272, q272, q272'⟩ := U270_0.cell
        obtain ⟨_, _, ⟨T272, L272, k272, n272⟩, -, X272, ⟨Lc272, hQ272, l272, y272, z272⟩, st272⟩ := X270.privateBack hx (y := (⟨OB, "cofactor", "(IIZ)I"⟩ : MethodName)) hown (mvT hZ (own_w hw 106 rfl)) (mvT hZ (own_w hw 107 rfl)) (own_selp (mvT hZ (own_w hw 50 rfl)) rfl (Cond.privateMethod_at (mvP hZ (own_w hw 108 rfl) (args := #[]))) (mvT hZ (own_w hw 107 rfl)) (by decide)) (Cond.privateMethod_at (mvP hZ (own_w hw 108 rfl) (args := #[]))) (mvT hZ (own_w hw 109 rfl)) (by decide) (backOf (W := 5) (rm21_1 l Z a0 hw [] a1 zA zt b1 k1 ns'_270 (zA.toInt.toNat) T270.heap n0 Z270 U270_0 U270_3 U270_9 (own_nn qP.1.1) (by have := qI.1.2.2.1; have := qP.1; have := qP.2.1; omega)) hZ (own_w hw 109 rfl) (own_w hw 5 rfl) (by decide) (by decide)) (g := (mkF m 127 #[.val (.ref a1), .val (.int p2), .val (.int p3), .val (.int p4), .val (.int z4), .val (.int zA), .val (.int zB), .val (.int (frm18 p2 zA zB cs)), .val (.int zt)] [(.int (1 : Int32)), (.int zt), (.int zA), (.ref a1), (.int p2), (.ref a1), (.int r'_270), (.int zt), (.ref a1)])) rfl (by rw [hml]; rfl) (Steps.refl _) (a := a1) q272 q272' (argsL := [(.int zA), (.int zt), (.int (1 : Int32))]) (rest := [(.int p2), (.ref a1), (.int r'_270), (.int zt), (.ref a1)]) (lenOf pd_6 rfl) rfl (by show 2 * 0 + _ ≤ _; exact Nat.le_of_eq rfl) (hb hby d14_127) (fun _ _ => ⟨rfl, rfl, (by decide : 0 + 0 ≤ _), (by decide : 0 + 0 ≤ _)⟩)
        dsimp only [Pt.U, Pt.locs, Pt.cells, Pt.slots] at X272 l272 y272 z272 st272 hQ272
        subst l272 y272 z272
        obtain ⟨rfl, Nq272, e272⟩ := hQ272
        have N272 := Fr.app N270 Nq272
        refine own_go (B := T272.setTop (mkF m 130 #[.val (.ref a1), .val (.int p2), .val (.int p3), .val (.int p4), .val (.int z4), .val (.int zA), .val (.int zB), .val (.int (frm18 p2 zA zB cs)), .val (.int zt)] [(.int (frm21_1 zA zt ns'_270 (zA.toInt.toNat))), (.int p2), (.ref a1), (.int r'_270), (.int zt), (.ref a1)])) (fun t k => st272.trans k) ?_
        obtain ⟨cA1, h_cA1⟩ : ∃ z, z = (frm21_1 zA zt ns'_270 (zA.toInt.toNat)) := ⟨_, rfl⟩
        rw [← h_cA1] at qA1 ⊢
        refine own_go (B := T272.setTop (mkF m 136 #[.val (.ref a1), .val (.int p2), .val (.int p3), .val (.int p4), .val (.int z4), .val (.int zA), .val (.int zB), .val (.int (frm18 p2 zA zB cs)), .val (.int zt)] [(.int (1 : Int32)), (.int zt), (.int zB), (.ref a1), (.int cA1), (.int p2), (.ref a1), (.int r'_270), (.int zt), (.ref a1)])) (fun t k => ?_) ?_
        · refine XS.aloadN X272.here hx rfl (hb hby d14_130) rfl rfl ?_
          refine XS.iload X272.here hx rfl (hb hby d14_131) rfl ?_
          refine XS.iload X272.here hx rfl (hb hby d14_133) rfl ?_
          refine XS.iconst X272.here hx rfl (hb hby d14_135) ?_
          exact k
        obtain ⟨cq273, q273, q273'⟩ := U270_0.cell
        obtain ⟨_, _, ⟨T273, L273, k273, n273⟩, -, X273, ⟨Lc273, hQ273, l273, y273, z273⟩, st273⟩ := X272.privateBack hx (y := (⟨OB, "cofactor", "(IIZ)I"⟩ : MethodName)) hown (mvT hZ (own_w hw 106 rfl)) (mvT hZ (own_w hw 107 rfl)) (own_selp (mvT hZ (own_w hw 50 rfl)) rfl (Cond.privateMethod_at (mvP hZ (own_w hw 108 rfl) (args := #[]))) (mvT hZ (own_w hw 107 rfl)) (by decide)) (Cond.privateMethod_at (mvP hZ (own_w hw 108 rfl) (args := #[]))) (mvT hZ (own_w hw 109 rfl)) (by decide) (backOf (W := 6) (rm21_1 l Z a0 hw [] a1 zB zt b1 k1 ns'_270 (zB.toInt.toNat) T270.heap n0 Z270 U270_0 U270_3 U270_9 (own_nn qP.2.1.1) (by have := qI.1.2.2.1; have := qP.1; have := qP.2.1; omega)) hZ (own_w hw 109 rfl) (own_w hw 5 rfl) (by decide) (by decide)) (g := (mkF m 136 #[.val (.ref a1), .val (.int p2), .val (.int p3), .val (.int p4), .val (.int z4), .val (.int zA), .val (.int zB), .val (.int (frm18 p2 zA zB cs)), .val (.int zt)] [(.int (1 : Int32)), (.int zt), (.int zB), (.ref a1), (.int cA1), (.int p2), (.ref a1), (.int r'_270), (.int zt), (.ref a1)])) rfl (by rw [hml]; rfl) (Steps.refl _) (a := a1) (by rw [e272]; exact q273) q273' (argsL := [(.int zB), (.int zt), (.int (1 : Int32))]) (rest := [(.int cA1), (.int p2), (.ref a1), (.int r'_270), (.int zt), (.ref a1)]) (lenOf pd_6 rfl) rfl (by show 2 * 0 + _ ≤ _; exact Nat.le_of_eq rfl) (hb hby d14_136) (fun _ _ => ⟨rfl, e272, (by decide : 0 + 0 ≤ _), (by decide : 0 + 0 ≤ _)⟩)
        dsimp only [Pt.U, Pt.locs, Pt.cells, Pt.slots] at X273 l273 y273 z273 st273 hQ273
        subst l273 y273 z273
        obtain ⟨rfl, Nq273, e273⟩ := hQ273
        have N273 := Fr.app N272 Nq273
        refine own_go (B := T273.setTop (mkF m 139 #[.val (.ref a1), .val (.int p2), .val (.int p3), .val (.int p4), .val (.int z4), .val (.int zA), .val (.int zB), .val (.int (frm18 p2 zA zB cs)), .val (.int zt)] [(.int (frm21_1 zB zt ns'_270 (zB.toInt.toNat))), (.int cA1), (.int p2), (.ref a1), (.int r'_270), (.int zt), (.ref a1)])) (fun t k => st273.trans k) ?_
        obtain ⟨cB1, h_cB1⟩ : ∃ z, z = (frm21_1 zB zt ns'_270 (zB.toInt.toNat)) := ⟨_, rfl⟩
        rw [← h_cB1] at qB1 ⊢
        obtain ⟨cq274, q274, q274'⟩ := U270_0.cell
        obtain ⟨_, _, ⟨T274, L274, k274, n274⟩, -, X274, ⟨Lc274, hQ274, l274, y274, z274⟩, st274⟩ := X273.privateBack hx (y := (⟨OB, "apply", "(III)I"⟩ : MethodName)) hown (mvT hZ (own_w hw 79 rfl)) (mvT hZ (own_w hw 80 rfl)) (own_selp (mvT hZ (own_w hw 50 rfl)) rfl (Cond.privateMethod_at (mvP hZ (own_w hw 81 rfl) (args := #[]))) (mvT hZ (own_w hw 80 rfl)) (by decide)) (Cond.privateMethod_at (mvP hZ (own_w hw 81 rfl) (args := #[]))) (mvT hZ (own_w hw 82 rfl)) (by decide) (backOf (W := 3) (rm14_3 l Z a0 hw [] a1 p2 cA1 cB1 b1 b2 b3 k1 k2 k3 ns'_270 bs'_270 cs'_270 sz'_270 cp'_270 n'_270 T270.heap n0 Z270 U270_0 U270_1 U270_2 U270_3 U270_4 U270_5 U270_6 U270_7 U270_8 U270_9 U270_10 U270_11 g_a1 g_b1 g_b2 g_b3 ne_a1_b1 ne_a1_b2 ne_a1_b3 ne_b1_b2 ne_b1_b3 ne_b2_b3 Pq270_0.1 Pq270_0.2.1 (by have := Pq270_0.2.2.2.2.1; omega) (by have := Pq270_0.2.2.2.2.2; omega) qo qA1.2.1.1 qB1.2.1.1 (own_dlt qT.2.2.2.2 qA1.2.1.2) (own_dlt qT.2.2.2.2 qB1.2.1.2)) hZ (own_w hw 82 rfl) (own_w hw 5 rfl) (by decide) (by decide)) (g := (mkF m 139 #[.val (.ref a1), .val (.int p2), .val (.int p3), .val (.int p4), .val (.int z4), .val (.int zA), .val (.int zB), .val (.int (frm18 p2 zA zB cs)), .val (.int zt)] [(.int cB1), (.int cA1), (.int p2), (.ref a1), (.int r'_270), (.int zt), (.ref a1)])) rfl (by rw [hml]; rfl) (Steps.refl _) (a := a1) (by rw [e273]; exact q274) q274' (argsL := [(.int p2), (.int cA1), (.int cB1)]) (rest := [(.int r'_270), (.int zt), (.ref a1)]) (lenOf pd_4 rfl) rfl (by show 2 * 0 + _ ≤ _; exact Nat.le_of_eq rfl) (hb hby d14_139) (fun _ _ => ⟨rfl, e273, (by decide : 0 + 0 ≤ _), (by decide : 0 + 0 ≤ _)⟩)
        dsimp only [Pt.U, Pt.locs, Pt.cells, Pt.slots] at X274 l274 y274 z274 st274 hQ274
        subst l274 y274 z274
        obtain ⟨ns'_274, bs'_274, cs'_274, sz'_274, cp'_274, n'_274, r'_274, rfl, Nq274, Kq274, U274_0, U274_1, U274_2, U274_3, U274_4, U274_5, U274_6, U274_7, U274_8, U274_9, U274_10, U274_11, Pq274_0⟩ := hQ274
        have Q275 : Exa Z T274.heap a1 OB := U270_0.keep Kq274
        have Z274 : n0 ≤ T274.heap.size := Nat.le_trans Z270 Kq274.1
        have K274 : Keep h0 T274.heap [a1, b1, b2, b3] := K270.trans Kq274 (allS (Or.inl (List.mem_of_getElem? (i := 0) rfl)) (allS (Or.inl (List.mem_of_getElem? (i := 1) rfl)) (allS (Or.inl (List.mem_of_getElem? (i := 2) rfl)) (allS (Or.inl (List.mem_of_getElem? (i := 3) rfl)) all0))))
        have N274 := Fr.app N273 Nq274
        refine own_go (B := T274.setTop (mkF m 142 #[.val (.ref a1), .val (.int p2), .val (.int p3), .val (.int p4), .val (.int z4), .val (.int zA), .val (.int zB), .val (.int (frm18 p2 zA zB cs)), .val (.int zt)] [(.int r'_274), (.int r'_270), (.int zt), (.ref a1)])) (fun t k => st274.trans k) ?_
        have qL := own_nodeL Pq270_0 Pq274_0 qA0.1.2 qB0.1.2
        have qH := own_nodeH Pq274_0 qA1.2.1.2 qB1.2.1.2
        obtain ⟨cq276, q276, q276'⟩ := U274_0.cell
        obtain ⟨_, _, ⟨T276, L276, k276, n276⟩, -, X276, ⟨Lc276, hQ276, l276, y276, z276⟩, st276⟩ := X274.privateBack hx (y := (⟨OB, "node", "(III)I"⟩ : MethodName)) hown (mvT hZ (own_w hw 56 rfl)) (mvT hZ (own_w hw 57 rfl)) (own_selp (mvT hZ (own_w hw 50 rfl)) rfl (Cond.privateMethod_at (mvP hZ (own_w hw 58 rfl) (args := #[]))) (mvT hZ (own_w hw 57 rfl)) (by decide)) (Cond.privateMethod_at (mvP hZ (own_w hw 58 rfl) (args := #[]))) (mvT hZ (own_w hw 59 rfl)) (by decide) (backOf (W := 0) (rm9 l Z a0 hw [] a1 zt r'_270 r'_274 b1 b2 b3 k1 k2 k3 ns'_274 bs'_274 cs'_274 sz'_274 cp'_274 n'_274 T274.heap n0 Z274 U274_0 U274_1 U274_2 U274_3 U274_4 U274_5 U274_6 U274_7 U274_8 U274_9 U274_10 U274_11 g_a1 g_b1 g_b2 ne_a1_b1 ne_a1_b2 ne_a1_b3 ne_b1_b2 ne_b1_b3 ne_b2_b3 Pq274_0.1 Pq274_0.2.1 (by have := Pq270_0.2.2.2.2.1; have := Pq274_0.2.2.2.2.1; omega) qT.1 qL.1 qH.1 qL.2 qH.2) hZ (own_w hw 59 rfl) (own_w hw 5 rfl) (by decide) (by decide)) (g := (mkF m 142 #[.val (.ref a1), .val (.int p2), .val (.int p3), .val (.int p4), .val (.int z4), .val (.int zA), .val (.int zB), .val (.int (frm18 p2 zA zB cs)), .val (.int zt)] [(.int r'_274), (.int r'_270), (.int zt), (.ref a1)])) rfl (by rw [hml]; rfl) (Steps.refl _) (a := a1) q276 q276' (argsL := [(.int zt), (.int r'_270), (.int r'_274)]) (rest := []) (lenOf pd_4 rfl) rfl (by show 2 * 0 + _ ≤ _; exact Nat.le_of_eq rfl) (hb hby d14_142) (fun _ _ => ⟨rfl, rfl, (by decide : 0 + 0 ≤ _), (by decide : 0 + 0 ≤ _)⟩)
        dsimp only [Pt.U, Pt.locs, Pt.cells, Pt.slots] at X276 l276 y276 z276 st276 hQ276
        subst l276 y276 z276
        obtain ⟨ns'_276, bs'_276, sz'_276, n'_276, r'_276, rfl, Nq276, Kq276, U276_0, U276_1, U276_2, U276_3, U276_4, U276_5, U276_6, U276_7, U276_8, U276_9, U276_10, U276_11, Pq276_0⟩ := hQ276
        have Q277 : Exa Z T276.heap a1 OB := U274_0.keep Kq276
        have Q278 : Arv Z T276.heap b3 k3 .int (4096 : Int32) (own_I cs'_274) (.int (0 : Int32)) := U274_11.keep Kq276 (ninS (Ne.symm ne_a1_b3) (ninS (Ne.symm ne_b1_b3) (ninS (Ne.symm ne_b2_b3) nin0)))
        have Z276 : n0 ≤ T276.heap.size := Nat.le_trans Z274 Kq276.1
        have K276 : Keep h0 T276.heap [a1, b1, b2, b3] := K274.trans Kq276 (allS (Or.inl (List.mem_of_getElem? (i := 0) rfl)) (allS (Or.inl (List.mem_of_getElem? (i := 1) rfl)) (allS (Or.inl (List.mem_of_getElem? (i := 2) rfl)) all0)))
        have N276 := Fr.app N274 Nq276
        refine own_go (B := T276.setTop (mkF m 145 #[.val (.ref a1), .val (.int p2), .val (.int p3), .val (.int p4), .val (.int z4), .val (.int zA), .val (.int zB), .val (.int (frm18 p2 zA zB cs)), .val (.int zt)] [(.int r'_276)])) (fun t k => st276.trans k) ?_
        refine own_go (B := T276.setTop (mkF m 156 #[.val (.ref a1), .val (.int p2), .val (.int p3), .val (.int p4), .val (.int z4), .val (.int zA), .val (.int zB), .val (.int r'_276), .val (.int zt)] [(.int r'_276), (.int (0 : Int32)), (.int zB), (.int zA), (.int p2), (.ref a1)])) (fun t k => ?_) ?_
        · refine XS.istore X276.here hx rfl (hb hby d14_145) rfl (l' := #[.val (.ref a1), .val (.int p2), .val (.int p3), .val (.int p4), .val (.int z4), .val (.int zA), .val (.int zB), .val (.int r'_276), .val (.int zt)]) rfl ?_
          refine XS.aloadN X276.here hx rfl (hb hby d14_147) rfl rfl ?_
          refine XS.iloadN X276.here hx rfl (hb hby d14_148) rfl ?_
          refine XS.iload X276.here hx rfl (hb hby d14_149) rfl ?_
          refine XS.iload X276.here hx rfl (hb hby d14_151) rfl ?_
          refine XS.iconst X276.here hx rfl (hb hby d14_153) ?_
          refine XS.iload X276.here hx rfl (hb hby d14_154) rfl ?_
          exact k
        obtain ⟨cq279, q279, q279'⟩ := U276_0.cell
        obtain ⟨_, _, ⟨T279, L279, k279, n279⟩, -, X279, ⟨Lc279, hQ279, l279, y279, z279⟩, st279⟩ := X276.privateBack hx (y := (⟨OB, "store", "(IIIII)V"⟩ : MethodName)) hown (mvT hZ (own_w hw 118 rfl)) (mvT hZ (own_w hw 119 rfl)) (own_selp (mvT hZ (own_w hw 50 rfl)) rfl (Cond.privateMethod_at (mvP hZ (own_w hw 120 rfl) (args := #[]))) (mvT hZ (own_w hw 119 rfl)) (by decide)) (Cond.privateMethod_at (mvP hZ (own_w hw 120 rfl) (args := #[]))) (mvT hZ (own_w hw 121 rfl)) (by decide) (backOf (W := 0) (rm24 l Z a0 hw [] a1 p2 zA zB r'_276 b1 b2 b3 k1 k2 k3 ns'_276 bs'_276 cs'_274 sz'_276 cp'_274 n'_276 T276.heap n0 Z276 U276_0 U276_1 U276_2 U276_3 U276_4 U276_5 U276_6 U276_7 U276_8 U276_9 U276_10 U276_11 g_a1 g_b3 ne_a1_b1 ne_a1_b2 ne_a1_b3 ne_b1_b2 ne_b1_b3 ne_b2_b3 Pq276_0.1 Pq276_0.2.1 (by have := Pq270_0.2.2.2.2.2; have := Pq274_0.2.2.2.2.2; omega)) hZ (own_w hw 121 rfl) (own_w hw 5 rfl) (by decide) (by decide)) (g := (mkF m 156 #[.val (.ref a1), .val (.int p2), .val (.int p3), .val (.int p4), .val (.int z4), .val (.int zA), .val (.int zB), .val (.int r'_276), .val (.int zt)] [(.int r'_276), (.int (0 : Int32)), (.int zB), (.int zA), (.int p2), (.ref a1)])) rfl (by rw [hml]; rfl) (Steps.refl _) (a := a1) q279 q279' (argsL := [(.int p2), (.int zA), (.int zB), (.int (0 : Int32)), (.int r'_276)]) (rest := []) (lenOf pd_7 rfl) rfl (by show 2 * 0 + _ ≤ _; exact Nat.le_of_eq rfl) (hb hby d14_156) (fun _ _ => ⟨rfl, rfl, (by decide : 0 + 0 ≤ _), (by decide : 0 + 0 ≤ _)⟩)
        dsimp only [Pt.U, Pt.locs, Pt.cells, Pt.slots] at X279 l279 y279 z279 st279 hQ279
        subst l279 y279 z279
        obtain ⟨rfl, Nq279, Kq279, U279_0, U279_1, U279_2, U279_3, U279_4, U279_5, U279_6, U279_7, U279_8, U279_9, U279_10, U279_11⟩ := hQ279
        have Q280 : Exa Z T279.heap a1 OB := U276_0.keep Kq279
        have Q281 : Arv Z T279.heap b1 k1 .int (256 : Int32) (own_I ns'_276) (.int (0 : Int32)) := U276_9.keep Kq279 (ninS (Ne.symm ne_a1_b1) (ninS ne_b1_b3 nin0))
        have Q282 : Arv Z T279.heap b2 k2 .int (64 : Int32) (own_I bs'_276) (.int (0 : Int32)) := U276_10.keep Kq279 (ninS (Ne.symm ne_a1_b2) (ninS ne_b2_b3 nin0))
        have Z279 : n0 ≤ T279.heap.size := Nat.le_trans Z276 Kq279.1
        have K279 : Keep h0 T279.heap [a1, b1, b2, b3] := K276.trans Kq279 (allS (Or.inl (List.mem_of_getElem? (i := 0) rfl)) (allS (Or.inl (List.mem_of_getElem? (i := 3) rfl)) all0))
        have N279 := Fr.app N276 Nq279
        refine own_go (B := T279.setTop (mkF m 159 #[.val (.ref a1), .val (.int p2), .val (.int p3), .val (.int p4), .val (.int z4), .val (.int zA), .val (.int zB), .val (.int r'_276), .val (.int zt)] [])) (fun t k => st279.trans k) ?_
        refine own_go (B := T279.setTop (mkF m 161 #[.val (.ref a1), .val (.int p2), .val (.int p3), .val (.int p4), .val (.int z4), .val (.int zA), .val (.int zB), .val (.int r'_276), .val (.int zt)] [(.int r'_276)])) (fun t k => ?_) ?_
        · refine XS.iload X279.here hx rfl (hb hby d14_159) rfl ?_
          exact k
        obtain ⟨fs, hr, hrun, hended, hW, hsame⟩ := X279.leave (v := some (.int r'_276)) (fun h => by rw [Bd.returns] at h; cases h)
        refine ⟨_, _, ?_, hrun, hended, _, _, rfl, ?_, ⟨_, rfl⟩, hW, hsame.mono (by decide) (by decide)⟩
        · show Steps p.tables e below (T279.setTop (mkF m 161 #[.val (.ref a1), .val (.int p2), .val (.int p3), .val (.int p4), .val (.int z4), .val (.int zA), .val (.int zB), .val (.int r'_276), .val (.int zt)] [(.int r'_276)])) _
          exact retOut X279 hx Bd.returns rfl (Or.inl ⟨rfl, Or.inl rfl, _, rfl⟩) (hb hby d14_161) hr
        · show Qrm14_2 Z a1 p2 p3 p4 b1 b2 b3 k1 k2 k3 ns bs cs sz cp n h0 n0 _ T279.heap _
          skip
          exact ⟨ns'_276, bs'_276, (own_put cs'_274 (4 * own_e (own_hash p2 zA zB (0 : Int32))) zA zB ((0 : Int32) ||| p2) r'_276), sz'_276, (cp'_274 + (1 : Int64)), n'_276, r'_276, rfl, N279, K279, U279_0, U279_1, U279_2, U279_3, U279_4, U279_5, U279_6, U279_7, U279_8, U279_9, U279_10, U279_11, own_ap_node qI qP qT qA0 qB0 qA1 qB1 Pq270_0 Pq274_0 Pq276_0 (own_en_spec _).2 qc⟩
      · refine own_go (B := T263.setTop (mkF m 159 #[.val (.ref a1), .val (.int p2), .val (.int p3), .val (.int p4), .val (.int z4), .val (.int zA), .val (.int zB), .val (.int (frm18 p2 zA zB cs)), .unset] [])) (fun t k => ?_) ?_
        · refine XS.ifYes X263.here hx rfl (pc0 := 73) (pc' := 159) rfl (hb hby d14_73) rfl ((if0 _ _).trans (flt hc73_264).2.1) (by decide) (by decide) ?_
          exact k
        refine own_go (B := T263.setTop (mkF m 161 #[.val (.ref a1), .val (.int p2), .val (.int p3), .val (.int p4), .val (.int z4), .val (.int zA), .val (.int zB), .val (.int (frm18 p2 zA zB cs)), .unset] [(.int (frm18 p2 zA zB cs))])) (fun t k => ?_) ?_
        · refine XS.iload X263.here hx rfl (hb hby d14_159) rfl ?_
          exact k
        obtain ⟨fs, hr, hrun, hended, hW, hsame⟩ := X263.leave (v := some (.int (frm18 p2 zA zB cs))) (fun h => by rw [Bd.returns] at h; cases h)
        refine ⟨_, _, ?_, hrun, hended, _, _, rfl, ?_, ⟨_, rfl⟩, hW, hsame.mono (by decide) (by decide)⟩
        · show Steps p.tables e below (T263.setTop (mkF m 161 #[.val (.ref a1), .val (.int p2), .val (.int p3), .val (.int p4), .val (.int z4), .val (.int zA), .val (.int zB), .val (.int (frm18 p2 zA zB cs)), .unset] [(.int (frm18 p2 zA zB cs))])) _
          exact retOut X263 hx Bd.returns rfl (Or.inl ⟨rfl, Or.inl rfl, _, rfl⟩) (hb hby d14_161) hr
        · show Qrm14_2 Z a1 p2 p3 p4 b1 b2 b3 k1 k2 k3 ns bs cs sz cp n h0 n0 _ T263.heap _
          rw [e263]
          exact ⟨ns, bs, cs, sz, cp, n, (frm18 p2 zA zB cs), rfl, N263, K0, P0, P1, P2, P3, P4, P5, P6, P7, P8, P9, P10, P11, own_ap_cached qI qs qP hc73_264⟩
    · refine own_go (B := T261.setTop (mkF m 159 #[.val (.ref a1), .val (.int p2), .val (.int p3), .val (.int p4), .val (.int z4), .val (.int zA), .val (.int zB), .val (.int (own_term p2 zA zB)), .unset] [])) (fun t k => ?_) ?_
      · refine XS.ifYes X261.here hx rfl (pc0 := 56) (pc' := 159) rfl (hb hby d14_56) rfl ((if0 _ _).trans (flt hc56_262).2.1) (by decide) (by decide) ?_
        exact k
      refine own_go (B := T261.setTop (mkF m 161 #[.val (.ref a1), .val (.int p2), .val (.int p3), .val (.int p4), .val (.int z4), .val (.int zA), .val (.int zB), .val (.int (own_term p2 zA zB)), .unset] [(.int (own_term p2 zA zB))])) (fun t k => ?_) ?_
      · refine XS.iload X261.here hx rfl (hb hby d14_159) rfl ?_
        exact k
      obtain ⟨fs, hr, hrun, hended, hW, hsame⟩ := X261.leave (v := some (.int (own_term p2 zA zB))) (fun h => by rw [Bd.returns] at h; cases h)
      refine ⟨_, _, ?_, hrun, hended, _, _, rfl, ?_, ⟨_, rfl⟩, hW, hsame.mono (by decide) (by decide)⟩
      · show Steps p.tables e below (T261.setTop (mkF m 161 #[.val (.ref a1), .val (.int p2), .val (.int p3), .val (.int p4), .val (.int z4), .val (.int zA), .val (.int zB), .val (.int (own_term p2 zA zB)), .unset] [(.int (own_term p2 zA zB))])) _
        exact retOut X261 hx Bd.returns rfl (Or.inl ⟨rfl, Or.inl rfl, _, rfl⟩) (hb hby d14_161) hr
      · show Qrm14_2 Z a1 p2 p3 p4 b1 b2 b3 k1 k2 k3 ns bs cs sz cp n h0 n0 _ T261.heap _
        rw [e261]
        exact ⟨ns, bs, cs, sz, cp, n, (own_term p2 zA zB), rfl, N261, K0, P0, P1, P2, P3, P4, P5, P6, P7, P8, P9, P10, P11, own_ap_term qI qs qo qP hc56_262⟩
  refine own_go (B := s₁.setTop (mkF m 2 #[.val (.ref a1), .val (.int p2), .val (.int p3), .val (.int p4), .unset, .unset, .unset, .unset, .unset] [(.int (5 : Int32)), (.int p2)])) (fun t k => ?_) ?_
  · refine XS.iloadN X0.here hx rfl (hb hby d14_0) rfl ?_
    refine XS.iconst X0.here hx rfl (hb hby d14_1) ?_
    exact k
  by_cases hc2_283 : p2 = (5 : Int32)
  · refine own_go (B := s₁.setTop (mkF m 5 #[.val (.ref a1), .val (.int p2), .val (.int p3), .val (.int p4), .unset, .unset, .unset, .unset, .unset] [])) (fun t k => ?_) ?_
    · refine XS.icmpNo X0.here hx rfl (hb hby d14_2) rfl (teq hc2_283).2 ?_
      exact k
    refine own_go (B := s₁.setTop (mkF m 44 #[.val (.ref a1), .val (.int p2), .val (.int p3), .val (.int p4), .val (.int (1 : Int32)), .val (.int p3), .val (.int p4), .unset, .unset] [])) (fun t k => ?_) ?_
    · refine XS.iconst X0.here hx rfl (hb hby d14_5) ?_
      refine XS.goto X0.here hx rfl (pc0 := 6) (pc' := 10) rfl (hb hby d14_6) (by decide) (by decide) ?_
      refine XS.istore X0.here hx rfl (hb hby d14_10) rfl (l' := #[.val (.ref a1), .val (.int p2), .val (.int p3), .val (.int p4), .val (.int (1 : Int32)), .unset, .unset, .unset, .unset]) rfl ?_
      refine XS.iload X0.here hx rfl (hb hby d14_12) rfl ?_
      refine XS.ifNo X0.here hx rfl (hb hby d14_14) rfl ((if0 _ _).trans (feq (by decide : ¬ ((1 : Int32) = (0 : Int32)))).1) ?_
      refine XS.iloadN X0.here hx rfl (hb hby d14_17) rfl ?_
      refine XS.goto X0.here hx rfl (pc0 := 18) (pc' := 26) rfl (hb hby d14_18) (by decide) (by decide) ?_
      refine XS.istore X0.here hx rfl (hb hby d14_26) rfl (l' := #[.val (.ref a1), .val (.int p2), .val (.int p3), .val (.int p4), .val (.int (1 : Int32)), .val (.int p3), .unset, .unset, .unset]) rfl ?_
      refine XS.iload X0.here hx rfl (hb hby d14_28) rfl ?_
      refine XS.ifNo X0.here hx rfl (hb hby d14_30) rfl ((if0 _ _).trans (feq (by decide : ¬ ((1 : Int32) = (0 : Int32)))).1) ?_
      refine XS.iloadN X0.here hx rfl (hb hby d14_33) rfl ?_
      refine XS.goto X0.here hx rfl (pc0 := 34) (pc' := 42) rfl (hb hby d14_34) (by decide) (by decide) ?_
      refine XS.istore X0.here hx rfl (hb hby d14_42) rfl (l' := #[.val (.ref a1), .val (.int p2), .val (.int p3), .val (.int p4), .val (.int (1 : Int32)), .val (.int p3), .val (.int p4), .unset, .unset]) rfl ?_
      exact k
    exact join260 (1 : Int32) p3 p4 s₁ _ (own_pair_5 qa qb qda qdb hc2_283) X0 e0 N0
  · refine own_go (B := s₁.setTop (mkF m 9 #[.val (.ref a1), .val (.int p2), .val (.int p3), .val (.int p4), .unset, .unset, .unset, .unset, .unset] [])) (fun t k => ?_) ?_
    · refine XS.icmpYes X0.here hx rfl (pc0 := 2) (pc' := 9) rfl (hb hby d14_2) rfl (feq hc2_283).2 (by decide) (by decide) ?_
      exact k
    refine own_go (B := s₁.setTop (mkF m 23 #[.val (.ref a1), .val (.int p2), .val (.int p3), .val (.int p4), .val (.int (0 : Int32)), .unset, .unset, .unset, .unset] [(.int p4), (.int p3)])) (fun t k => ?_) ?_
    · refine XS.iconst X0.here hx rfl (hb hby d14_9) ?_
      refine XS.istore X0.here hx rfl (hb hby d14_10) rfl (l' := #[.val (.ref a1), .val (.int p2), .val (.int p3), .val (.int p4), .val (.int (0 : Int32)), .unset, .unset, .unset, .unset]) rfl ?_
      refine XS.iload X0.here hx rfl (hb hby d14_12) rfl ?_
      refine XS.ifYes X0.here hx rfl (pc0 := 14) (pc' := 21) rfl (hb hby d14_14) rfl ((if0 _ _).trans (teq (rfl : (0 : Int32) = (0 : Int32))).1) (by decide) (by decide) ?_
      refine XS.iloadN X0.here hx rfl (hb hby d14_21) rfl ?_
      refine XS.iloadN X0.here hx rfl (hb hby d14_22) rfl ?_
      exact k
    obtain ⟨_, _, ⟨T287, L287, k287, n287⟩, -, X287, ⟨Lc287, hQ287, l287, y287, z287⟩, st287⟩ := Jvm.LawKit.callS X0 hx (y := (⟨"java/lang/Math", "min", "(II)I"⟩ : MethodName)) hown (mvT hZ (own_w hw 16 rfl)) (mvT hZ (own_w hw 17 rfl)) (mvT hZ (own_w hw 18 rfl)) (mvT hZ (own_w hw 19 rfl)) (by decide) (backOf (W := 0) (rm3 l Z a0 hw [] p3 p4 h0 n0 Z0 ) hZ (own_w hw 19 rfl) (own_w hw 18 rfl) (by decide) (by decide)) (g := (mkF m 23 #[.val (.ref a1), .val (.int p2), .val (.int p3), .val (.int p4), .val (.int (0 : Int32)), .unset, .unset, .unset, .unset] [(.int p4), (.int p3)])) rfl (by rw [hml]; rfl) (argsL := [(.int p3), (.int p4)]) (rest := []) (lenOf pd_5 rfl) rfl (by show 2 * 0 + _ ≤ _; exact Nat.le_of_eq rfl) (hb hby d14_23) (fun _ _ => ⟨rfl, e0, (by decide : 0 + 0 ≤ _), (by decide : 0 + 0 ≤ _)⟩)
    dsimp only [Pt.U, Pt.locs, Pt.cells, Pt.slots] at X287 l287 y287 z287 st287 hQ287
    subst l287 y287 z287
    obtain ⟨rfl, Nq287, e287⟩ := hQ287
    have N287 := Fr.app N0 Nq287
    refine own_go (B := T287.setTop (mkF m 26 #[.val (.ref a1), .val (.int p2), .val (.int p3), .val (.int p4), .val (.int (0 : Int32)), .unset, .unset, .unset, .unset] [(.int (frm3 p3 p4))])) st287 ?_
    refine own_go (B := T287.setTop (mkF m 39 #[.val (.ref a1), .val (.int p2), .val (.int p3), .val (.int p4), .val (.int (0 : Int32)), .val (.int (frm3 p3 p4)), .unset, .unset, .unset] [(.int p4), (.int p3)])) (fun t k => ?_) ?_
    · refine XS.istore X287.here hx rfl (hb hby d14_26) rfl (l' := #[.val (.ref a1), .val (.int p2), .val (.int p3), .val (.int p4), .val (.int (0 : Int32)), .val (.int (frm3 p3 p4)), .unset, .unset, .unset]) rfl ?_
      refine XS.iload X287.here hx rfl (hb hby d14_28) rfl ?_
      refine XS.ifYes X287.here hx rfl (pc0 := 30) (pc' := 37) rfl (hb hby d14_30) rfl ((if0 _ _).trans (teq (rfl : (0 : Int32) = (0 : Int32))).1) (by decide) (by decide) ?_
      refine XS.iloadN X287.here hx rfl (hb hby d14_37) rfl ?_
      refine XS.iloadN X287.here hx rfl (hb hby d14_38) rfl ?_
      exact k
    obtain ⟨_, _, ⟨T289, L289, k289, n289⟩, -, X289, ⟨Lc289, hQ289, l289, y289, z289⟩, st289⟩ := Jvm.LawKit.callS X287 hx (y := (⟨"java/lang/Math", "max", "(II)I"⟩ : MethodName)) hown (mvT hZ (own_w hw 83 rfl)) (mvT hZ (own_w hw 84 rfl)) (mvT hZ (own_w hw 18 rfl)) (mvT hZ (own_w hw 85 rfl)) (by decide) (backOf (W := 0) (rm15 l Z a0 hw [] p3 p4 h0 n0 Z0 ) hZ (own_w hw 85 rfl) (own_w hw 18 rfl) (by decide) (by decide)) (g := (mkF m 39 #[.val (.ref a1), .val (.int p2), .val (.int p3), .val (.int p4), .val (.int (0 : Int32)), .val (.int (frm3 p3 p4)), .unset, .unset, .unset] [(.int p4), (.int p3)])) rfl (by rw [hml]; rfl) (argsL := [(.int p3), (.int p4)]) (rest := []) (lenOf pd_5 rfl) rfl (by show 2 * 0 + _ ≤ _; exact Nat.le_of_eq rfl) (hb hby d14_39) (fun _ _ => ⟨rfl, e287, (by decide : 0 + 0 ≤ _), (by decide : 0 + 0 ≤ _)⟩)
    dsimp only [Pt.U, Pt.locs, Pt.cells, Pt.slots] at X289 l289 y289 z289 st289 hQ289
    subst l289 y289 z289
    obtain ⟨rfl, Nq289, e289⟩ := hQ289
    have N289 := Fr.app N287 Nq289
    refine own_go (B := T289.setTop (mkF m 42 #[.val (.ref a1), .val (.int p2), .val (.int p3), .val (.int p4), .val (.int (0 : Int32)), .val (.int (frm3 p3 p4)), .unset, .unset, .unset] [(.int (frm15 p3 p4))])) st289 ?_
    refine own_go (B := T289.setTop (mkF m 44 #[.val (.ref a1), .val (.int p2), .val (.int p3), .val (.int p4), .val (.int (0 : Int32)), .val (.int (frm3 p3 p4)), .val (.int (frm15 p3 p4)), .unset, .unset] [])) (fun t k => ?_) ?_
    · refine XS.istore X289.here hx rfl (hb hby d14_42) rfl (l' := #[.val (.ref a1), .val (.int p2), .val (.int p3), .val (.int p4), .val (.int (0 : Int32)), .val (.int (frm3 p3 p4)), .val (.int (frm15 p3 p4)), .unset, .unset]) rfl ?_
      exact k
    exact join260 (0 : Int32) (frm3 p3 p4) (frm15 p3 p4) T289 _ (own_pair_mm qo qa qb qda qdb hc2_283) X289 e289 N289
def Qrm14_1 (Z : State) (a1 : Addr) (p2 : Int32) (p3 : Int32) (p4 : Int32) (b1 : Addr) (b2 : Addr) (b3 : Addr) (k1 : ClassId) (k2 : ClassId) (k3 : ClassId) (ns : List Int32) (bs : List Int32) (cs : List Int32) (sz : Int32) (cp : Int64) (n : Nat) (h0 : Heap) (n0 : Nat) (v : Option Value) (h : Heap) (L : List Loc) : Prop := ∃ ns' : List Int32, ∃ bs' : List Int32, ∃ cs' : List Int32, ∃ sz' : Int32, ∃ cp' : Int64, ∃ n' : Nat, ∃ r' : Int32, v = some (.int r') ∧ Fr n0 L ∧ Keep h0 h [a1, b1, b2, b3] ∧ Exa Z h a1 OB ∧ Fld Z h a1 OB "variableCount" "I" (.int (3 : Int32)) ∧ Fld Z h a1 OB "maxComputations" "J" (.long (9223372036854775807 : Int64)) ∧ Fld Z h a1 OB "nodes" "[I" (.ref b1) ∧ Fld Z h a1 OB "buckets" "[I" (.ref b2) ∧ Fld Z h a1 OB "cacheBits" "I" (.int (10 : Int32)) ∧ Fld Z h a1 OB "cache" "[I" (.ref b3) ∧ Fld Z h a1 OB "size" "I" (.int sz') ∧ Fld Z h a1 OB "computations" "J" (.long cp') ∧ Arv Z h b1 k1 .int (256 : Int32) (own_I ns') (.int (0 : Int32)) ∧ Arv Z h b2 k2 .int (64 : Int32) (own_I bs') (.int (0 : Int32)) ∧ Arv Z h b3 k3 .int (4096 : Int32) (own_I cs') (.int (0 : Int32)) ∧ (own_AP 3 ns n cp p2 p3 p4 ns' bs' cs' sz' cp' n' r')
theorem efrm14_1 (m : MethodId) (x0 : Addr) (x1 : Int32) (x2 : Int32) (x3 : Int32) : entryFrame m #[(.ref x0), (.int x1), (.int x2), (.int x3)] 9 = mkF m 0 #[.val (.ref x0), .val (.int x1), .val (.int x2), .val (.int x3), .unset, .unset, .unset, .unset, .unset] [] := by first | (simp [entryFrame, mkF, argsToLocals, Value.category]; done) | rfl
set_option maxRecDepth 65536 in
set_option maxHeartbeats 40000000 in
theorem rm14_1 (l : Launch) (Z : State) (a0 : Array Value) (hw : ∀ d ∈ tables_1, d.before a0 Z = true) (ws : List Jvm.Cond) (a1 : Addr) (p2 : Int32) (p3 : Int32) (p4 : Int32) (b1 : Addr) (b2 : Addr) (b3 : Addr) (k1 : ClassId) (k2 : ClassId) (k3 : ClassId) (ns : List Int32) (bs : List Int32) (cs : List Int32) (sz : Int32) (cp : Int64) (n : Nat) (h0 : Heap) (n0 : Nat) (Z0 : n0 ≤ h0.size) (P0 : Exa Z h0 a1 OB) (P1 : Fld Z h0 a1 OB "variableCount" "I" (.int (3 : Int32))) (P2 : Fld Z h0 a1 OB "maxComputations" "J" (.long (9223372036854775807 : Int64))) (P3 : Fld Z h0 a1 OB "nodes" "[I" (.ref b1)) (P4 : Fld Z h0 a1 OB "buckets" "[I" (.ref b2)) (P5 : Fld Z h0 a1 OB "cacheBits" "I" (.int (10 : Int32))) (P6 : Fld Z h0 a1 OB "cache" "[I" (.ref b3)) (P7 : Fld Z h0 a1 OB "size" "I" (.int sz)) (P8 : Fld Z h0 a1 OB "computations" "J" (.long cp)) (P9 : Arv Z h0 b1 k1 .int (256 : Int32) (own_I ns) (.int (0 : Int32))) (P10 : Arv Z h0 b2 k2 .int (64 : Int32) (own_I bs) (.int (0 : Int32))) (P11 : Arv Z h0 b3 k3 .int (4096 : Int32) (own_I cs) (.int (0 : Int32))) (g_a1 : n0 ≤ a1) (g_b1 : n0 ≤ b1) (g_b2 : n0 ≤ b2) (g_b3 : n0 ≤ b3) (ne_a1_b1 : a1 ≠ b1) (ne_a1_b2 : a1 ≠ b2) (ne_a1_b3 : a1 ≠ b3) (ne_b1_b2 : b1 ≠ b2) (ne_b1_b3 : b1 ≠ b3) (ne_b2_b3 : b2 ≠ b3) (qI : own_Inv ns bs cs n) (qs : sz.toInt = (n : Int)) (qw : n + 3 ≤ 64) (qc : 0 ≤ cp.toInt ∧ cp.toInt + 3 ≤ 1000) (qo : p2 = (0 : Int32) ∨ p2 = (1 : Int32) ∨ p2 = (2 : Int32) ∨ p2 = (5 : Int32)) (qa : 0 ≤ p3.toInt ∧ p3.toInt < n) (qb : 0 ≤ p4.toInt ∧ p4.toInt < n) (qda : 1 ≤ own_vr ns p3.toInt.toNat) (qdb : 1 ≤ own_vr ns p4.toInt.toNat) :
    MetFree l (⟨OB, "apply", "(III)I"⟩ : MethodName) (head1 (Jvm.Cond.code (⟨OB, "apply", "(III)I"⟩ : MethodName) prog_103_method_19_code 9 (some .int) :: ws) ({ frames := 4, cells := 0, slots := 0, locals := 74 } : Room)) (fun a U => a = #[(.ref a1), (.int p2), (.int p3), (.int p4)] ∧ Z.Warmed39 U.vm ∧ U.heap = h0) (fun _ _ _ _ _ => True) (fun _ U o U' => ∃ v L, o = .returned v ∧ Qrm14_1 Z a1 p2 p3 p4 b1 b2 b3 k1 k2 k3 ns bs cs sz cp n h0 n0 v U'.heap L ∧ FrameEnd U o U' L ({ frames := 4, cells := 0, slots := 0, locals := 74 } : Room).cells ({ frames := 4, cells := 0, slots := 0, locals := 74 } : Room).slots) := by
  refine MetFree.of_bodySF (plainFor_of_name pn_0) hisR ?_
  intro p e s m args below meth c s₁ Bd hml0 hP hK
  obtain ⟨rfl, hZ, hh⟩ := hP
  have hx := Bd.exec
  have hby := Bd.bytes
  have hml : c.maxLocals = 9 := hml0
  have hown : s.vm.findClass OB = some m.cls := findClass_of_methodNamed Bd.named
  have hnm := (name_of_methodNamed Bd.named Bd.method).1
  have X0 : Stand p l e ({ frames := 4, cells := 0, slots := 0, locals := 74 } : Room) s m #[(.ref a1), (.int p2), (.int p3), (.int p4)] below meth c s₁ [] 0 0 := Stand.of_body Bd
  have e0 : s₁.heap = h0 := by rw [← hh, Bd.state]; rfl
  have N0 := Fr.nil n0
  have K0 : Keep h0 h0 [a1, b1, b2, b3] := Keep.refl h0 _
  refine own_go (B := s₁.setTop (mkF m 0 #[.val (.ref a1), .val (.int p2), .val (.int p3), .val (.int p4), .unset, .unset, .unset, .unset, .unset] [])) (fun t k => castTop (efrm14_1 m a1 p2 p3 p4) k) ?_
  have join290 : ∀ (z4 : Int32) (zA : Int32) (zB : Int32) (Tq290 : State) (Lq290 : List Loc), own_pair ns n 1 p2 p3 p4 zA zB → Stand p l e ({ frames := 4, cells := 0, slots := 0, locals := 74 } : Room) s m #[(.ref a1), (.int p2), (.int p3), (.int p4)] below meth c Tq290 Lq290 0 0 → Tq290.heap = h0 → Fr n0 Lq290 → ∃ s₂ o, Steps p.tables e below (Tq290.setTop (mkF m 44 #[.val (.ref a1), .val (.int p2), .val (.int p3), .val (.int p4), .val (.int z4), .val (.int zA), .val (.int zB), .unset, .unset] [])) s₂ ∧ s₂.status = .running ∧ Ended s₂ below o ∧ ∃ v L, o = .returned v ∧ Qrm14_1 Z a1 p2 p3 p4 b1 b2 b3 k1 k2 k3 ns bs cs sz cp n h0 n0 v s₂.heap L ∧ FrameEnd s o s₂ L ({ frames := 4, cells := 0, slots := 0, locals := 74 } : Room).cells ({ frames := 4, cells := 0, slots := 0, locals := 74 } : Room).slots := by
    intro z4 zA zB Tq290 Lq290 qP Xq290 eq290 Nq290
    refine own_go (B := Tq290.setTop (mkF m 49 #[.val (.ref a1), .val (.int p2), .val (.int p3), .val (.int p4), .val (.int z4), .val (.int zA), .val (.int zB), .unset, .unset] [(.int zB), (.int zA), (.int p2)])) (fun t k => ?_) ?_
    · refine XS.iloadN Xq290.here hx rfl (hb hby d14_44) rfl ?_
      refine XS.iload Xq290.here hx rfl (hb hby d14_45) rfl ?_
      refine XS.iload Xq290.here hx rfl (hb hby d14_47) rfl ?_
      exact k
    obtain ⟨_, _, ⟨T291, L291, k291, n291⟩, -, X291, ⟨Lc291, hQ291, l291, y291, z291⟩, st291⟩ := Jvm.LawKit.callS Xq290 hx (y := (⟨OB, "terminal", "(III)I"⟩ : MethodName)) hown (mvT hZ (own_w hw 86 rfl)) (mvT hZ (own_w hw 87 rfl)) (mvT hZ (own_w hw 5 rfl)) (mvT hZ (own_w hw 88 rfl)) (by decide) (backOf (W := 0) (rm16 l Z a0 hw [] p2 zA zB h0 n0 Z0 ) hZ (own_w hw 88 rfl) (own_w hw 5 rfl) (by decide) (by decide)) (g := (mkF m 49 #[.val (.ref a1), .val (.int p2), .val (.int p3), .val (.int p4), .val (.int z4), .val (.int zA), .val (.int zB), .unset, .unset] [(.int zB), (.int zA), (.int p2)])) rfl (by rw [hml]; rfl) (argsL := [(.int p2), (.int zA), (.int zB)]) (rest := []) (lenOf pd_4 rfl) rfl (by show 2 * 0 + _ ≤ _; exact Nat.le_of_eq rfl) (hb hby d14_49) (fun _ _ => ⟨rfl, eq290, (by decide : 0 + 0 ≤ _), (by decide : 0 + 0 ≤ _)⟩)
    dsimp only [Pt.U, Pt.locs, Pt.cells, Pt.slots] at X291 l291 y291 z291 st291 hQ291
    subst l291 y291 z291
    obtain ⟨rfl, Nq291, e291⟩ := hQ291
    have N291 := Fr.app Nq290 Nq291
    refine own_go (B := T291.setTop (mkF m 52 #[.val (.ref a1), .val (.int p2), .val (.int p3), .val (.int p4), .val (.int z4), .val (.int zA), .val (.int zB), .unset, .unset] [(.int (own_term p2 zA zB))])) st291 ?_
    refine own_go (B := T291.setTop (mkF m 56 #[.val (.ref a1), .val (.int p2), .val (.int p3), .val (.int p4), .val (.int z4), .val (.int zA), .val (.int zB), .val (.int (own_term p2 zA zB)), .unset] [(.int (own_term p2 zA zB))])) (fun t k => ?_) ?_
    · refine XS.istore X291.here hx rfl (hb hby d14_52) rfl (l' := #[.val (.ref a1), .val (.int p2), .val (.int p3), .val (.int p4), .val (.int z4), .val (.int zA), .val (.int zB), .val (.int (own_term p2 zA zB)), .unset]) rfl ?_
      refine XS.iload X291.here hx rfl (hb hby d14_54) rfl ?_
      exact k
    by_cases hc56_292 : (own_term p2 zA zB) < (0 : Int32)
    · refine own_go (B := T291.setTop (mkF m 59 #[.val (.ref a1), .val (.int p2), .val (.int p3), .val (.int p4), .val (.int z4), .val (.int zA), .val (.int zB), .val (.int (own_term p2 zA zB)), .unset] [])) (fun t k => ?_) ?_
      · refine XS.ifNo X291.here hx rfl (hb hby d14_56) rfl ((if0 _ _).trans (tlt hc56_292).2.1) ?_
        exact k
      refine own_go (B := T291.setTop (mkF m 66 #[.val (.ref a1), .val (.int p2), .val (.int p3), .val (.int p4), .val (.int z4), .val (.int zA), .val (.int zB), .val (.int (own_term p2 zA zB)), .unset] [(.int (0 : Int32)), (.int zB), (.int zA), (.int p2), (.ref a1)])) (fun t k => ?_) ?_
      · refine XS.aloadN X291.here hx rfl (hb hby d14_59) rfl rfl ?_
        refine XS.iloadN X291.here hx rfl (hb hby d14_60) rfl ?_
        refine XS.iload X291.here hx rfl (hb hby d14_61) rfl ?_
        refine XS.iload X291.here hx rfl (hb hby d14_63) rfl ?_
        refine XS.iconst X291.here hx rfl (hb hby d14_65) ?_
        exact k
      obtain ⟨cq293, q293, q293'⟩ := P0.cell
      obtain ⟨_, _, ⟨T293, L293, k293, n293⟩, -, X293, ⟨Lc293, hQ293, l293, y293, z293⟩, st293⟩ := X291.privateBack hx (y := (⟨OB, "cached", "(IIII)I"⟩ : MethodName)) hown (mvT hZ (own_w hw 94 rfl)) (mvT hZ (own_w hw 95 rfl)) (own_selp (mvT hZ (own_w hw 50 rfl)) rfl (Cond.privateMethod_at (mvP hZ (own_w hw 96 rfl) (args := #[]))) (mvT hZ (own_w hw 95 rfl)) (by decide)) (Cond.privateMethod_at (mvP hZ (own_w hw 96 rfl) (args := #[]))) (mvT hZ (own_w hw 97 rfl)) (by decide) (backOf (W := 0) (rm18 l Z a0 hw [] a1 p2 zA zB b3 k3 cs h0 n0 Z0 P0 P5 P6 P11) hZ (own_w hw 97 rfl) (own_w hw 5 rfl) (by decide) (by decide)) (g := (mkF m 66 #[.val (.ref a1), .val (.int p2), .val (.int p3), .val (.int p4), .val (.int z4), .val (.int zA), .val (.int zB), .val (.int (own_term p2 zA zB)), .unset] [(.int (0 : Int32)), (.int zB), (.int zA), (.int p2), (.ref a1)])) rfl (by rw [hml]; rfl) (Steps.refl _) (a := a1) (by rw [e291]; exact q293) q293' (argsL := [(.int p2), (.int zA), (.int zB), (.int (0 : Int32))]) (rest := []) (lenOf pd_0 rfl) rfl (by show 2 * 0 + _ ≤ _; exact Nat.le_of_eq rfl) (hb hby d14_66) (fun _ _ => ⟨rfl, e291, (by decide : 0 + 0 ≤ _), (by decide : 0 + 0 ≤ _)⟩)
      dsimp only [Pt.U, Pt.locs, Pt.cells, Pt.slots] at X293 l293 y293 z293 st293 hQ293
      subst l293 y293 z293
      obtain ⟨rfl, Nq293, e293⟩ := hQ293
      have N293 := Fr.app N291 Nq293
      refine own_go (B := T293.setTop (mkF m 69 #[.val (.ref a1), .val (.int p2), .val (.int p3), .val (.int p4), .val (.int z4), .val (.int zA), .val (.int zB), .val (.int (own_term p2 zA zB)), .unset] [(.int (frm18 p2 zA zB cs))])) (fun t k => st293.trans k) ?_
      refine own_go (B := T293.setTop (mkF m 73 #[.val (.ref a1), .val (.int p2), .val (.int p3), .val (.int p4), .val (.int z4), .val (.int zA), .val (.int zB), .val (.int (frm18 p2 zA zB cs)), .unset] [(.int (frm18 p2 zA zB cs))])) (fun t k => ?_) ?_
      · refine XS.istore X293.here hx rfl (hb hby d14_69) rfl (l' := #[.val (.ref a1), .val (.int p2), .val (.int p3), .val (.int p4), .val (.int z4), .val (.int zA), .val (.int zB), .val (.int (frm18 p2 zA zB cs)), .unset]) rfl ?_
        refine XS.iload X293.here hx rfl (hb hby d14_71) rfl ?_
        exact k
      by_cases hc73_294 : (frm18 p2 zA zB cs) < (0 : Int32)
      · refine own_go (B := T293.setTop (mkF m 76 #[.val (.ref a1), .val (.int p2), .val (.int p3), .val (.int p4), .val (.int z4), .val (.int zA), .val (.int zB), .val (.int (frm18 p2 zA zB cs)), .unset] [])) (fun t k => ?_) ?_
        · refine XS.ifNo X293.here hx rfl (hb hby d14_73) rfl ((if0 _ _).trans (tlt hc73_294).2.1) ?_
          exact k
        refine own_go (B := T293.setTop (mkF m 79 #[.val (.ref a1), .val (.int p2), .val (.int p3), .val (.int p4), .val (.int z4), .val (.int zA), .val (.int zB), .val (.int (frm18 p2 zA zB cs)), .unset] [(.int zA), (.ref a1)])) (fun t k => ?_) ?_
        · refine XS.aloadN X293.here hx rfl (hb hby d14_76) rfl rfl ?_
          refine XS.iload X293.here hx rfl (hb hby d14_77) rfl ?_
          exact k
        obtain ⟨cq295, q295, q295'⟩ := P0.cell
        obtain ⟨_, _, ⟨T295, L295, k295, n295⟩, -, X295, ⟨Lc295, hQ295, l295, y295, z295⟩, st295⟩ := X293.privateBack hx (y := (⟨OB, "variableOf", "(I)I"⟩ : MethodName)) hown (mvT hZ (own_w hw 102 rfl)) (mvT hZ (own_w hw 103 rfl)) (own_selp (mvT hZ (own_w hw 50 rfl)) rfl (Cond.privateMethod_at (mvP hZ (own_w hw 104 rfl) (args := #[]))) (mvT hZ (own_w hw 103 rfl)) (by decide)) (Cond.privateMethod_at (mvP hZ (own_w hw 104 rfl) (args := #[]))) (mvT hZ (own_w hw 105 rfl)) (by decide) (backOf (W := 0) (rm20 l Z a0 hw [] a1 zA b1 k1 ns (zA.toInt.toNat) h0 n0 Z0 P3 P9 (own_nn qP.1.1) (by have := qI.1.2.2.1; have := qP.1; have := qP.2.1; omega)) hZ (own_w hw 105 rfl) (own_w hw 5 rfl) (by decide) (by decide)) (g := (mkF m 79 #[.val (.ref a1), .val (.int p2), .val (.int p3), .val (.int p4), .val (.int z4), .val (.int zA), .val (.int zB), .val (.int (frm18 p2 zA zB cs)), .unset] [(.int zA), (.ref a1)])) rfl (by rw [hml]; rfl) (Steps.refl _) (a := a1) (by rw [e293]; exact q295) q295' (argsL := [(.int zA)]) (rest := []) (lenOf pd_2 rfl) rfl (by show 2 * 0 + _ ≤ _; exact Nat.le_of_eq rfl) (hb hby d14_79) (fun _ _ => ⟨rfl, e293, (by decide : 0 + 0 ≤ _), (by decide : 0 + 0 ≤ _)⟩)
        dsimp only [Pt.U, Pt.locs, Pt.cells, Pt.slots] at X295 l295 y295 z295 st295 hQ295
        subst l295 y295 z295
        obtain ⟨rfl, Nq295, e295⟩ := hQ295
        have N295 := Fr.app N293 Nq295
        refine own_go (B := T295.setTop (mkF m 82 #[.val (.ref a1), .val (.int p2), .val (.int p3), .val (.int p4), .val (.int z4), .val (.int zA), .val (.int zB), .val (.int (frm18 p2 zA zB cs)), .unset] [(.int (ns.getD (4 * (zA.toInt.toNat)) 0))])) (fun t k => st295.trans k) ?_
        refine own_go (B := T295.setTop (mkF m 85 #[.val (.ref a1), .val (.int p2), .val (.int p3), .val (.int p4), .val (.int z4), .val (.int zA), .val (.int zB), .val (.int (frm18 p2 zA zB cs)), .unset] [(.int zB), (.ref a1), (.int (ns.getD (4 * (zA.toInt.toNat)) 0))])) (fun t k => ?_) ?_
        · refine XS.aloadN X295.here hx rfl (hb hby d14_82) rfl rfl ?_
          refine XS.iload X295.here hx rfl (hb hby d14_83) rfl ?_
          exact k
        obtain ⟨cq296, q296, q296'⟩ := P0.cell
        obtain ⟨_, _, ⟨T296, L296, k296, n296⟩, -, X296, ⟨Lc296, hQ296, l296, y296, z296⟩, st296⟩ := X295.privateBack hx (y := (⟨OB, "variableOf", "(I)I"⟩ : MethodName)) hown (mvT hZ (own_w hw 102 rfl)) (mvT hZ (own_w hw 103 rfl)) (own_selp (mvT hZ (own_w hw 50 rfl)) rfl (Cond.privateMethod_at (mvP hZ (own_w hw 104 rfl) (args := #[]))) (mvT hZ (own_w hw 103 rfl)) (by decide)) (Cond.privateMethod_at (mvP hZ (own_w hw 104 rfl) (args := #[]))) (mvT hZ (own_w hw 105 rfl)) (by decide) (backOf (W := 1) (rm20 l Z a0 hw [] a1 zB b1 k1 ns (zB.toInt.toNat) h0 n0 Z0 P3 P9 (own_nn qP.2.1.1) (by have := qI.1.2.2.1; have := qP.1; have := qP.2.1; omega)) hZ (own_w hw 105 rfl) (own_w hw 5 rfl) (by decide) (by decide)) (g := (mkF m 85 #[.val (.ref a1), .val (.int p2), .val (.int p3), .val (.int p4), .val (.int z4), .val (.int zA), .val (.int zB), .val (.int (frm18 p2 zA zB cs)), .unset] [(.int zB), (.ref a1), (.int (ns.getD (4 * (zA.toInt.toNat)) 0))])) rfl (by rw [hml]; rfl) (Steps.refl _) (a := a1) (by rw [e295]; exact q296) q296' (argsL := [(.int zB)]) (rest := [(.int (ns.getD (4 * (zA.toInt.toNat)) 0))]) (lenOf pd_2 rfl) rfl (by show 2 * 0 + _ ≤ _; exact Nat.le_of_eq rfl) (hb hby d14_85) (fun _ _ => ⟨rfl, e295, (by decide : 0 + 0 ≤ _), (by decide : 0 + 0 ≤ _)⟩)
        dsimp only [Pt.U, Pt.locs, Pt.cells, Pt.slots] at X296 l296 y296 z296 st296 hQ296
        subst l296 y296 z296
        obtain ⟨rfl, Nq296, e296⟩ := hQ296
        have N296 := Fr.app N295 Nq296
        refine own_go (B := T296.setTop (mkF m 88 #[.val (.ref a1), .val (.int p2), .val (.int p3), .val (.int p4), .val (.int z4), .val (.int zA), .val (.int zB), .val (.int (frm18 p2 zA zB cs)), .unset] [(.int (ns.getD (4 * (zB.toInt.toNat)) 0)), (.int (ns.getD (4 * (zA.toInt.toNat)) 0))])) (fun t k => st296.trans k) ?_
        obtain ⟨_, _, ⟨T297, L297, k297, n297⟩, -, X297, ⟨Lc297, hQ297, l297, y297, z297⟩, st297⟩ := Jvm.LawKit.callS X296 hx (y := (⟨"java/lang/Math", "min", "(II)I"⟩ : MethodName)) hown (mvT hZ (own_w hw 16 rfl)) (mvT hZ (own_w hw 17 rfl)) (mvT hZ (own_w hw 18 rfl)) (mvT hZ (own_w hw 19 rfl)) (by decide) (backOf (W := 0) (rm3 l Z a0 hw [] (ns.getD (4 * (zA.toInt.toNat)) 0) (ns.getD (4 * (zB.toInt.toNat)) 0) h0 n0 Z0 ) hZ (own_w hw 19 rfl) (own_w hw 18 rfl) (by decide) (by decide)) (g := (mkF m 88 #[.val (.ref a1), .val (.int p2), .val (.int p3), .val (.int p4), .val (.int z4), .val (.int zA), .val (.int zB), .val (.int (frm18 p2 zA zB cs)), .unset] [(.int (ns.getD (4 * (zB.toInt.toNat)) 0)), (.int (ns.getD (4 * (zA.toInt.toNat)) 0))])) rfl (by rw [hml]; rfl) (argsL := [(.int (ns.getD (4 * (zA.toInt.toNat)) 0)), (.int (ns.getD (4 * (zB.toInt.toNat)) 0))]) (rest := []) (lenOf pd_5 rfl) rfl (by show 2 * 0 + _ ≤ _; exact Nat.le_of_eq rfl) (hb hby d14_88) (fun _ _ => ⟨rfl, e296, (by decide : 0 + 0 ≤ _), (by decide : 0 + 0 ≤ _)⟩)
        dsimp only [Pt.U, Pt.locs, Pt.cells, Pt.slots] at X297 l297 y297 z297 st297 hQ297
        subst l297 y297 z297
        obtain ⟨rfl, Nq297, e297⟩ := hQ297
        have N297 := Fr.app N296 Nq297
        refine own_go (B := T297.setTop (mkF m 91 #[.val (.ref a1), .val (.int p2), .val (.int p3), .val (.int p4), .val (.int z4), .val (.int zA), .val (.int zB), .val (.int (frm18 p2 zA zB cs)), .unset] [(.int (frm3 (ns.getD (4 * (zA.toInt.toNat)) 0) (ns.getD (4 * (zB.toInt.toNat)) 0)))])) st297 ?_
        refine own_go (B := T297.setTop (mkF m 93 #[.val (.ref a1), .val (.int p2), .val (.int p3), .val (.int p4), .val (.int z4), .val (.int zA), .val (.int zB), .val (.int (frm18 p2 zA zB cs)), .val (.int (frm3 (ns.getD (4 * (zA.toInt.toNat)) 0) (ns.getD (4 * (zB.toInt.toNat)) 0)))] [])) (fun t k => ?_) ?_
        · refine XS.istore X297.here hx rfl (hb hby d14_91) rfl (l' := #[.val (.ref a1), .val (.int p2), .val (.int p3), .val (.int p4), .val (.int z4), .val (.int zA), .val (.int zB), .val (.int (frm18 p2 zA zB cs)), .val (.int (frm3 (ns.getD (4 * (zA.toInt.toNat)) 0) (ns.getD (4 * (zB.toInt.toNat)) 0)))]) rfl ?_
          exact k
        have qT := own_top_spec qI.1 qo qP hc56_292
        dsimp only at qT
        obtain ⟨zt, h_zt⟩ : ∃ z, z = (frm3 (ns.getD (4 * (zA.toInt.toNat)) 0) (ns.getD (4 * (zB.toInt.toNat)) 0)) := ⟨_, rfl⟩
        rw [← h_zt] at qT ⊢
        have qA0 := own_cof qI.1 qP.1 qT.1 qT.2.1
        have qB0 := own_cof qI.1 qP.2.1 qT.1 qT.2.2.1
        refine own_go (B := T297.setTop (mkF m 104 #[.val (.ref a1), .val (.int p2), .val (.int p3), .val (.int p4), .val (.int z4), .val (.int zA), .val (.int zB), .val (.int (frm18 p2 zA zB cs)), .val (.int zt)] [(.int (0 : Int32)), (.int zt), (.int zA), (.ref a1), (.int p2), (.ref a1), (.int zt), (.ref a1)])) (fun t k => ?_) ?_
        · refine XS.aloadN X297.here hx rfl (hb hby d14_93) rfl rfl ?_
          refine XS.iload X297.here hx rfl (hb hby d14_94) rfl ?_
          refine XS.aloadN X297.here hx rfl (hb hby d14_96) rfl rfl ?_
          refine XS.iloadN X297.here hx rfl (hb hby d14_97) rfl ?_
          refine XS.aloadN X297.here hx rfl (hb hby d14_98) rfl rfl ?_
          refine XS.iload X297.here hx rfl (hb hby d14_99) rfl ?_
          refine XS.iload X297.here hx rfl (hb hby d14_101) rfl ?_
          refine XS.iconst X297.here hx rfl (hb hby d14_103) ?_
          exact k
        obtain ⟨cq298, q298, q298'⟩ := P0.cell
        obtain ⟨_, _, ⟨T298, L298, k298, n298⟩, -, X298, ⟨Lc298, hQ298, l298, y298, z298⟩, st298⟩ := X297.privateBack hx (y := (⟨OB, "cofactor", "(IIZ)I"⟩ : MethodName)) hown (mvT hZ (own_w hw 106 rfl)) (mvT hZ (own_w hw 107 rfl)) (own_selp (mvT hZ (own_w hw 50 rfl)) rfl (Cond.privateMethod_at (mvP hZ (own_w hw 108 rfl) (args := #[]))) (mvT hZ (own_w hw 107 rfl)) (by decide)) (Cond.privateMethod_at (mvP hZ (own_w hw 108 rfl) (args := #[]))) (mvT hZ (own_w hw 109 rfl)) (by decide) (backOf (W := 4) (rm21_0 l Z a0 hw [] a1 zA zt b1 k1 ns (zA.toInt.toNat) h0 n0 Z0 P0 P3 P9 (own_nn qP.1.1) (by have := qI.1.2.2.1; have := qP.1; have := qP.2.1; omega)) hZ (own_w hw 109 rfl) (own_w hw 5 rfl) (by decide) (by decide)) (g := (mkF m 104 #[.val (.ref a1), .val (.int p2), .val (.int p3), .val (.int p4), .val (.int z4), .val (.int zA), .val (.int zB), .val (.int (frm18 p2 zA zB cs)), .val (.int zt)] [(.int (0 : Int32)), (.int zt), (.int zA), (.ref a1), (.int p2), (.ref a1), (.int zt), (.ref a1)])) rfl (by rw [hml]; rfl) (Steps.refl _) (a := a1) (by rw [e297]; exact q298) q298' (argsL := [(.int zA), (.int zt), (.int (0 : Int32))]) (rest := [(.int p2), (.ref a1), (.int zt), (.ref a1)]) (lenOf pd_6 rfl) rfl (by show 2 * 0 + _ ≤ _; exact Nat.le_of_eq rfl) (hb hby d14_104) (fun _ _ => ⟨rfl, e297, (by decide : 0 + 0 ≤ _), (by decide : 0 + 0 ≤ _)⟩)
        dsimp only [Pt.U, Pt.locs, Pt.cells, Pt.slots] at X298 l298 y298 z298 st298 hQ298
        subst l298 y298 z298
        obtain ⟨rfl, Nq298, e298⟩ := hQ298
        have N298 := Fr.app N297 Nq298
        refine own_go (B := T298.setTop (mkF m 107 #[.val (.ref a1), .val (.int p2), .val (.int p3), .val (.int p4), .val (.int z4), .val (.int zA), .val (.int zB), .val (.int (frm18 p2 zA zB cs)), .val (.int zt)] [(.int (frm21_0 zA zt ns (zA.toInt.toNat))), (.int p2), (.ref a1), (.int zt), (.ref a1)])) (fun t k => st298.trans k) ?_
        obtain ⟨cA0, h_cA0⟩ : ∃ z, z = (frm21_0 zA zt ns (zA.toInt.toNat)) := ⟨_, rfl⟩
        rw [← h_cA0] at qA0 ⊢
        refine own_go (B := T298.setTop (mkF m 113 #[.val (.ref a1), .val (.int p2), .val (.int p3), .val (.int p4), .val (.int z4), .val (.int zA), .val (.int zB), .val (.int (frm18 p2 zA zB cs)), .val (.int zt)] [(.int (0 : Int32)), (.int zt), (.int zB), (.ref a1), (.int cA0), (.int p2), (.ref a1), (.int zt), (.ref a1)])) (fun t k => ?_) ?_
        · refine XS.aloadN X298.here hx rfl (hb hby d14_107) rfl rfl ?_
          refine XS.iload X298.here hx rfl (hb hby d14_108) rfl ?_
          refine XS.iload X298.here hx rfl (hb hby d14_110) rfl ?_
          refine XS.iconst X298.here hx rfl (hb hby d14_112) ?_
          exact k
        obtain ⟨cq299, q299, q299'⟩ := P0.cell
        obtain ⟨_, _, ⟨T299, L299, k299, n299⟩, -, X299, ⟨Lc299, hQ299, l299, y299, z299⟩, st299⟩ := X298.privateBack hx (y := (⟨OB, "cofactor", "(IIZ)I"⟩ : MethodName)) hown (mvT hZ (own_w hw 106 rfl)) (mvT hZ (own_w hw 107 rfl)) (own_selp (mvT hZ (own_w hw 50 rfl)) rfl (Cond.privateMethod_at (mvP hZ (own_w hw 108 rfl) (args := #[]))) (mvT hZ (own_w hw 107 rfl)) (by decide)) (Cond.privateMethod_at (mvP hZ (own_w hw 108 rfl) (args := #[]))) (mvT hZ (own_w hw 109 rfl)) (by decide) (backOf (W := 5) (rm21_0 l Z a0 hw [] a1 zB zt b1 k1 ns (zB.toInt.toNat) h0 n0 Z0 P0 P3 P9 (own_nn qP.2.1.1) (by have := qI.1.2.2.1; have := qP.1; have := qP.2.1; omega)) hZ (own_w hw 109 rfl) (own_w hw 5 rfl) (by decide) (by decide)) (g := (mkF m 113 #[.val (.ref a1), .val (.int p2), .val (.int p3), .val (.int p4), .val (.int z4), .val (.int zA), .val (.int zB), .val (.int (frm18 p2 zA zB cs)), .val (.int zt)] [(.int (0 : Int32)), (.int zt), (.int zB), (.ref a1), (.int cA0), (.int p2), (.ref a1), (.int zt), (.ref a1)])) rfl (by rw [hml]; rfl) (Steps.refl _) (a := a1) (by rw [e298]; exact q299) q299' (argsL := [(.int zB), (.int zt), (.int (0 : Int32))]) (rest := [(.int cA0), (.int p2), (.ref a1), (.int zt), (.ref a1)]) (lenOf pd_6 rfl) rfl (by show 2 * 0 + _ ≤ _; exact Nat.le_of_eq rfl) (hb hby d14_113) (fun _ _ => ⟨rfl, e298, (by decide : 0 + 0 ≤ _), (by decide : 0 + 0 ≤ _)⟩)
        dsimp only [Pt.U, Pt.locs, Pt.cells, Pt.slots] at X299 l299 y299 z299 st299 hQ299
        subst l299 y299 z299
        obtain ⟨rfl, Nq299, e299⟩ := hQ299
        have N299 := Fr.app N298 Nq299
        refine own_go (B := T299.setTop (mkF m 116 #[.val (.ref a1), .val (.int p2), .val (.int p3), .val (.int p4), .val (.int z4), .val (.int zA), .val (.int zB), .val (.int (frm18 p2 zA zB cs)), .val (.int zt)] [(.int (frm21_0 zB zt ns (zB.toInt.toNat))), (.int cA0), (.int p2), (.ref a1), (.int zt), (.ref a1)])) (fun t k => st299.trans k) ?_
        obtain ⟨cB0, h_cB0⟩ : ∃ z, z = (frm21_0 zB zt ns (zB.toInt.toNat)) := ⟨_, rfl⟩
        rw [← h_cB0] at qB0 ⊢
        obtain ⟨cq300, q300, q300'⟩ := P0.cell
        obtain ⟨_, _, ⟨T300, L300, k300, n300⟩, -, X300, ⟨Lc300, hQ300, l300, y300, z300⟩, st300⟩ := X299.privateBack hx (y := (⟨OB, "apply", "(III)I"⟩ : MethodName)) hown (mvT hZ (own_w hw 79 rfl)) (mvT hZ (own_w hw 80 rfl)) (own_selp (mvT hZ (own_w hw 50 rfl)) rfl (Cond.privateMethod_at (mvP hZ (own_w hw 81 rfl) (args := #[]))) (mvT hZ (own_w hw 80 rfl)) (by decide)) (Cond.privateMethod_at (mvP hZ (own_w hw 81 rfl) (args := #[]))) (mvT hZ (own_w hw 82 rfl)) (by decide) (backOf (W := 2) (rm14_2 l Z a0 hw [] a1 p2 cA0 cB0 b1 b2 b3 k1 k2 k3 ns bs cs sz cp n h0 n0 Z0 P0 P1 P2 P3 P4 P5 P6 P7 P8 P9 P10 P11 g_a1 g_b1 g_b2 g_b3 ne_a1_b1 ne_a1_b2 ne_a1_b3 ne_b1_b2 ne_b1_b3 ne_b2_b3 qI qs (by omega) (by omega) qo qA0.1.1 qB0.1.1 (own_dlt qT.2.2.2.2 qA0.1.2) (own_dlt qT.2.2.2.2 qB0.1.2)) hZ (own_w hw 82 rfl) (own_w hw 5 rfl) (by decide) (by decide)) (g := (mkF m 116 #[.val (.ref a1), .val (.int p2), .val (.int p3), .val (.int p4), .val (.int z4), .val (.int zA), .val (.int zB), .val (.int (frm18 p2 zA zB cs)), .val (.int zt)] [(.int cB0), (.int cA0), (.int p2), (.ref a1), (.int zt), (.ref a1)])) rfl (by rw [hml]; rfl) (Steps.refl _) (a := a1) (by rw [e299]; exact q300) q300' (argsL := [(.int p2), (.int cA0), (.int cB0)]) (rest := [(.int zt), (.ref a1)]) (lenOf pd_4 rfl) rfl (by show 2 * 0 + _ ≤ _; exact Nat.le_of_eq rfl) (hb hby d14_116) (fun _ _ => ⟨rfl, e299, (by decide : 0 + 0 ≤ _), (by decide : 0 + 0 ≤ _)⟩)
        dsimp only [Pt.U, Pt.locs, Pt.cells, Pt.slots] at X300 l300 y300 z300 st300 hQ300
        subst l300 y300 z300
        obtain ⟨ns'_300, bs'_300, cs'_300, sz'_300, cp'_300, n'_300, r'_300, rfl, Nq300, Kq300, U300_0, U300_1, U300_2, U300_3, U300_4, U300_5, U300_6, U300_7, U300_8, U300_9, U300_10, U300_11, Pq300_0⟩ := hQ300
        have Q301 : Exa Z T300.heap a1 OB := P0.keep Kq300
        have Z300 : n0 ≤ T300.heap.size := Nat.le_trans Z0 Kq300.1
        have K300 : Keep h0 T300.heap [a1, b1, b2, b3] := K0.trans Kq300 (allS (Or.inl (List.mem_of_getElem? (i := 0) rfl)) (allS (Or.inl (List.mem_of_getElem? (i := 1) rfl)) (allS (Or.inl (List.mem_of_getElem? (i := 2) rfl)) (allS (Or.inl (List.mem_of_getElem? (i := 3) rfl)) all0))))
        have N300 := Fr.app N299 Nq300
        refine own_go (B := T300.setTop (mkF m 119 #[.val (.ref a1), .val (.int p2), .val (.int p3), .val (.int p4), .val (.int z4), .val (.int zA), .val (.int zB), .val (.int (frm18 p2 zA zB cs)), .val (.int zt)] [(.int r'_300), (.int zt), (.ref a1)])) (fun t k => st300.trans k) ?_
        have qA1 := own_cof2 qI.1 Pq300_0.1.1 Pq300_0.2.2.1 Pq300_0.2.2.2.1 qP.1 qT.1 qT.2.1
        have qB1 := own_cof2 qI.1 Pq300_0.1.1 Pq300_0.2.2.1 Pq300_0.2.2.2.1 qP.2.1 qT.1 qT.2.2.1
        rw [← h_cA0] at qA1
        rw [← h_cB0] at qB1
        refine own_go (B := T300.setTop (mkF m 127 #[.val (.ref a1), .val (.int p2), .val (.int p3), .val (.int p4), .val (.int z4), .val (.int zA), .val (.int zB), .val (.int (frm18 p2 zA zB cs)), .val (.int zt)] [(.int (1 : Int32)), (.int zt), (.int zA), (.ref a1), (.int p2), (.ref a1), (.int r'_300), (.int zt), (.ref a1)])) (fun t k => ?_) ?_
        · refine XS.aloadN X300.here hx rfl (hb hby d14_119) rfl rfl ?_
          refine XS.iloadN X300.here hx rfl (hb hby d14_120) rfl ?_
          refine XS.aloadN X300.here hx rfl (hb hby d14_121) rfl rfl ?_
          refine XS.iload X300.here hx rfl (hb hby d14_122) rfl ?_
          refine XS.iload X300.here hx rfl (hb hby d14_124) rfl ?_
          refine XS.iconst X300.here hx rfl (hb hby d14_126) ?_
          exact k
        obtain ⟨cq302, q302, q302'⟩ := U300_0.cell
        obtain ⟨_, _, ⟨T302, L302, k302, n302⟩, -, X302, ⟨Lc302, hQ302, l302, y302, z302⟩, st302⟩ := X300.privateBack hx (y := (⟨OB, "cofactor", "(IIZ)I"⟩ : MethodName)) hown (mvT hZ (own_w hw 106 rfl)) (mvT hZ (own_w hw 107 rfl)) (own_selp (mvT hZ (own_w hw 50 rfl)) rfl (Cond.privateMethod_at (mvP hZ (own_w hw 108 rfl) (args := #[]))) (mvT hZ (own_w hw 107 rfl)) (by decide)) (Cond.privateMethod_at (mvP hZ (own_w hw 108 rfl) (args := #[]))) (mvT hZ (own_w hw 109 rfl)) (by decide) (backOf (W := 5) (rm21_1 l Z a0 hw [] a1 zA zt b1 k1 ns'_300 (zA.toInt.toNat) T300.heap n0 Z300 U300_0 U300_3 U300_9 (own_nn qP.1.1) (by have := qI.1.2.2.1; have := qP.1; have := qP.2.1; omega)) hZ (own_w hw 109 rfl) (own_w hw 5 rfl) (by decide) (by decide)) (g := (mkF m 127 #[.val (.ref a1), .val (.int p2), .val (.int p3), .val (.int p4), .val (.int z4), .val (.int zA), .val (.int zB), .val (.int (frm18 p2 zA zB cs)), .val (.int zt)] [(.int (1 : Int32)), (.int zt), (.int zA), (.ref a1), (.int p2), (.ref a1), (.int r'_300), (.int zt), (.ref a1)])) rfl (by rw [hml]; rfl) (Steps.refl _) (a := a1) q302 q302' (argsL := [(.int zA), (.int zt), (.int (1 : Int32))]) (rest := [(.int p2), (.ref a1), (.int r'_300), (.int zt), (.ref a1)]) (lenOf pd_6 rfl) rfl (by show 2 * 0 + _ ≤ _; exact Nat.le_of_eq rfl) (hb hby d14_127) (fun _ _ => ⟨rfl, rfl, (by decide : 0 + 0 ≤ _), (by decide : 0 + 0 ≤ _)⟩)
        dsimp only [Pt.U, Pt.locs, Pt.cells, Pt.slots] at X302 l302 y302 z302 st302 hQ302
        subst l302 y302 z302
        obtain ⟨rfl, Nq302, e302⟩ := hQ302
        have N302 := Fr.app N300 Nq302
        refine own_go (B := T302.setTop (mkF m 130 #[.val (.ref a1), .val (.int p2), .val (.int p3), .val (.int p4), .val (.int z4), .val (.int zA), .val (.int zB), .val (.int (frm18 p2 zA zB cs)), .val (.int zt)] [(.int (frm21_1 zA zt ns'_300 (zA.toInt.toNat))), (.int p2), (.ref a1), (.int r'_300), (.int zt), (.ref a1)])) (fun t k => st302.trans k) ?_
        obtain ⟨cA1, h_cA1⟩ : ∃ z, z = (frm21_1 zA zt ns'_300 (zA.toInt.toNat)) := ⟨_, rfl⟩
        rw [← h_cA1] at qA1 ⊢
        refine own_go (B := T302.setTop (mkF m 136 #[.val (.ref a1), .val (.int p2), .val (.int p3), .val (.int p4), .val (.int z4), .val (.int zA), .val (.int zB), .val (.int (frm18 p2 zA zB cs)), .val (.int zt)] [(.int (1 : Int32)), (.int zt), (.int zB), (.ref a1), (.int cA1), (.int p2), (.ref a1), (.int r'_300), (.int zt), (.ref a1)])) (fun t k => ?_) ?_
        · refine XS.aloadN X302.here hx rfl (hb hby d14_130) rfl rfl ?_
          refine XS.iload X302.here hx rfl (hb hby d14_131) rfl ?_
          refine XS.iload X302.here hx rfl (hb hby d14_133) rfl ?_
          refine XS.iconst X302.here hx rfl (hb hby d14_135) ?_
          exact k
        obtain ⟨cq303, q303, q303'⟩ := U300_0.cell
        obtain ⟨_, _, ⟨T303, L303, k303, n303⟩, -, X303, ⟨Lc303, hQ303, l303, y303, z303⟩, st303⟩ := X302.privateBack hx (y := (⟨OB, "cofactor", "(IIZ)I"⟩ : MethodName)) hown (mvT hZ (own_w hw 106 rfl)) (mvT hZ (own_w hw 107 rfl)) (own_selp (mvT hZ (own_w hw 50 rfl)) rfl (Cond.privateMethod_at (mvP hZ (own_w hw 108 rfl) (args := #[]))) (mvT hZ (own_w hw 107 rfl)) (by decide)) (Cond.privateMethod_at (mvP hZ (own_w hw 108 rfl) (args := #[]))) (mvT hZ (own_w hw 109 rfl)) (by decide) (backOf (W := 6) (rm21_1 l Z a0 hw [] a1 zB zt b1 k1 ns'_300 (zB.toInt.toNat) T300.heap n0 Z300 U300_0 U300_3 U300_9 (own_nn qP.2.1.1) (by have := qI.1.2.2.1; have := qP.1; have := qP.2.1; omega)) hZ (own_w hw 109 rfl) (own_w hw 5 rfl) (by decide) (by decide)) (g := (mkF m 136 #[.val (.ref a1), .val (.int p2), .val (.int p3), .val (.int p4), .val (.int z4), .val (.int zA), .val (.int zB), .val (.int (frm18 p2 zA zB cs)), .val (.int zt)] [(.int (1 : Int32)), (.int zt), (.int zB), (.ref a1), (.int cA1), (.int p2), (.ref a1), (.int r'_300), (.int zt), (.ref a1)])) rfl (by rw [hml]; rfl) (Steps.refl _) (a := a1) (by rw [e302]; exact q303) q303' (argsL := [(.int zB), (.int zt), (.int (1 : Int32))]) (rest := [(.int cA1), (.int p2), (.ref a1), (.int r'_300), (.int zt), (.ref a1)]) (lenOf pd_6 rfl) rfl (by show 2 * 0 + _ ≤ _; exact Nat.le_of_eq rfl) (hb hby d14_136) (fun _ _ => ⟨rfl, e302, (by decide : 0 + 0 ≤ _), (by decide : 0 + 0 ≤ _)⟩)
        dsimp only [Pt.U, Pt.locs, Pt.cells, Pt.slots] at X303 l303 y303 z303 st303 hQ303
        subst l303 y303 z303
        obtain ⟨rfl, Nq303, e303⟩ := hQ303
        have N303 := Fr.app N302 Nq303
        refine own_go (B := T303.setTop (mkF m 139 #[.val (.ref a1), .val (.int p2), .val (.int p3), .val (.int p4), .val (.int z4), .val (.int zA), .val (.int zB), .val (.int (frm18 p2 zA zB cs)), .val (.int zt)] [(.int (frm21_1 zB zt ns'_300 (zB.toInt.toNat))), (.int cA1), (.int p2), (.ref a1), (.int r'_300), (.int zt), (.ref a1)])) (fun t k => st303.trans k) ?_
        obtain ⟨cB1, h_cB1⟩ : ∃ z, z = (frm21_1 zB zt ns'_300 (zB.toInt.toNat)) := ⟨_, rfl⟩
        rw [← h_cB1] at qB1 ⊢
        obtain ⟨cq304, q304, q304'⟩ := U300_0.cell
        obtain ⟨_, _, ⟨T304, L304, k304, n304⟩, -, X304, ⟨Lc304, hQ304, l304, y304, z304⟩, st304⟩ := X303.privateBack hx (y := (⟨OB, "apply", "(III)I"⟩ : MethodName)) hown (mvT hZ (own_w hw 79 rfl)) (mvT hZ (own_w hw 80 rfl)) (own_selp (mvT hZ (own_w hw 50 rfl)) rfl (Cond.privateMethod_at (mvP hZ (own_w hw 81 rfl) (args := #[]))) (mvT hZ (own_w hw 80 rfl)) (by decide)) (Cond.privateMethod_at (mvP hZ (own_w hw 81 rfl) (args := #[]))) (mvT hZ (own_w hw 82 rfl)) (by decide) (backOf (W := 3) (rm14_2 l Z a0 hw [] a1 p2 cA1 cB1 b1 b2 b3 k1 k2 k3 ns'_300 bs'_300 cs'_300 sz'_300 cp'_300 n'_300 T300.heap n0 Z300 U300_0 U300_1 U300_2 U300_3 U300_4 U300_5 U300_6 U300_7 U300_8 U300_9 U300_10 U300_11 g_a1 g_b1 g_b2 g_b3 ne_a1_b1 ne_a1_b2 ne_a1_b3 ne_b1_b2 ne_b1_b3 ne_b2_b3 Pq300_0.1 Pq300_0.2.1 (by have := Pq300_0.2.2.2.2.1; omega) (by have := Pq300_0.2.2.2.2.2; omega) qo qA1.2.1.1 qB1.2.1.1 (own_dlt qT.2.2.2.2 qA1.2.1.2) (own_dlt qT.2.2.2.2 qB1.2.1.2)) hZ (own_w hw 82 rfl) (own_w hw 5 rfl) (by decide) (by decide)) (g := (mkF m 139 #[.val (.ref a1), .val (.int p2), .val (.int p3), .val (.int p4), .val (.int z4), .val (.int zA), .val (.int zB), .val (.int (frm18 p2 zA zB cs)), .val (.int zt)] [(.int cB1), (.int cA1), (.int p2), (.ref a1), (.int r'_300), (.int zt), (.ref a1)])) rfl (by rw [hml]; rfl) (Steps.refl _) (a := a1) (by rw [e303]; exact q304) q304' (argsL := [(.int p2), (.int cA1), (.int cB1)]) (rest := [(.int r'_300), (.int zt), (.ref a1)]) (lenOf pd_4 rfl) rfl (by show 2 * 0 + _ ≤ _; exact Nat.le_of_eq rfl) (hb hby d14_139) (fun _ _ => ⟨rfl, e303, (by decide : 0 + 0 ≤ _), (by decide : 0 + 0 ≤ _)⟩)
        dsimp only [Pt.U, Pt.locs, Pt.cells, Pt.slots] at X304 l304 y304 z304 st304 hQ304
        subst l304 y304 z304
        obtain ⟨ns'_304, bs'_304, cs'_304, sz'_304, cp'_304, n'_304, r'_304, rfl, Nq304, Kq304, U304_0, U304_1, U304_2, U304_3, U304_4, U304_5, U304_6, U304_7, U304_8, U304_9, U304_10, U304_11, Pq304_0⟩ := hQ304
        have Q305 : Exa Z T304.heap a1 OB := U300_0.keep Kq304
        have Z304 : n0 ≤ T304.heap.size := Nat.le_trans Z300 Kq304.1
        have K304 : Keep h0 T304.heap [a1, b1, b2, b3] := K300.trans Kq304 (allS (Or.inl (List.mem_of_getElem? (i := 0) rfl)) (allS (Or.inl (List.mem_of_getElem? (i := 1) rfl)) (allS (Or.inl (List.mem_of_getElem? (i := 2) rfl)) (allS (Or.inl (List.mem_of_getElem? (i := 3) rfl)) all0))))
        have N304 := Fr.app N303 Nq304
        refine own_go (B := T304.setTop (mkF m 142 #[.val (.ref a1), .val (.int p2), .val (.int p3), .val (.int p4), .val (.int z4), .val (.int zA), .val (.int zB), .val (.int (frm18 p2 zA zB cs)), .val (.int zt)] [(.int r'_304), (.int r'_300), (.int zt), (.ref a1)])) (fun t k => st304.trans k) ?_
        have qL := own_nodeL Pq300_0 Pq304_0 qA0.1.2 qB0.1.2
        have qH := own_nodeH Pq304_0 qA1.2.1.2 qB1.2.1.2
        obtain ⟨cq306, q306, q306'⟩ := U304_0.cell
        obtain ⟨_, _, ⟨T306, L306, k306, n306⟩, -, X306, ⟨Lc306, hQ306, l306, y306, z306⟩, st306⟩ := X304.privateBack hx (y := (⟨OB, "node", "(III)I"⟩ : MethodName)) hown (mvT hZ (own_w hw 56 rfl)) (mvT hZ (own_w hw 57 rfl)) (own_selp (mvT hZ (own_w hw 50 rfl)) rfl (Cond.privateMethod_at (mvP hZ (own_w hw 58 rfl) (args := #[]))) (mvT hZ (own_w hw 57 rfl)) (by decide)) (Cond.privateMethod_at (mvP hZ (own_w hw 58 rfl) (args := #[]))) (mvT hZ (own_w hw 59 rfl)) (by decide) (backOf (W := 0) (rm9 l Z a0 hw [] a1 zt r'_300 r'_304 b1 b2 b3 k1 k2 k3 ns'_304 bs'_304 cs'_304 sz'_304 cp'_304 n'_304 T304.heap n0 Z304 U304_0 U304_1 U304_2 U304_3 U304_4 U304_5 U304_6 U304_7 U304_8 U304_9 U304_10 U304_11 g_a1 g_b1 g_b2 ne_a1_b1 ne_a1_b2 ne_a1_b3 ne_b1_b2 ne_b1_b3 ne_b2_b3 Pq304_0.1 Pq304_0.2.1 (by have := Pq300_0.2.2.2.2.1; have := Pq304_0.2.2.2.2.1; omega) qT.1 qL.1 qH.1 qL.2 qH.2) hZ (own_w hw 59 rfl) (own_w hw 5 rfl) (by decide) (by decide)) (g := (mkF m 142 #[.val (.ref a1), .val (.int p2), .val (.int p3), .val (.int p4), .val (.int z4), .val (.int zA), .val (.int zB), .val (.int (frm18 p2 zA zB cs)), .val (.int zt)] [(.int r'_304), (.int r'_300), (.int zt), (.ref a1)])) rfl (by rw [hml]; rfl) (Steps.refl _) (a := a1) q306 q306' (argsL := [(.int zt), (.int r'_300), (.int r'_304)]) (rest := []) (lenOf pd_4 rfl) rfl (by show 2 * 0 + _ ≤ _; exact Nat.le_of_eq rfl) (hb hby d14_142) (fun _ _ => ⟨rfl, rfl, (by decide : 0 + 0 ≤ _), (by decide : 0 + 0 ≤ _)⟩)
        dsimp only [Pt.U, Pt.locs, Pt.cells, Pt.slots] at X306 l306 y306 z306 st306 hQ306
        subst l306 y306 z306
        obtain ⟨ns'_306, bs'_306, sz'_306, n'_306, r'_306, rfl, Nq306, Kq306, U306_0, U306_1, U306_2, U306_3, U306_4, U306_5, U306_6, U306_7, U306_8, U306_9, U306_10, U306_11, Pq306_0⟩ := hQ306
        have Q307 : Exa Z T306.heap a1 OB := U304_0.keep Kq306
        have Q308 : Arv Z T306.heap b3 k3 .int (4096 : Int32) (own_I cs'_304) (.int (0 : Int32)) := U304_11.keep Kq306 (ninS (Ne.symm ne_a1_b3) (ninS (Ne.symm ne_b1_b3) (ninS (Ne.symm ne_b2_b3) nin0)))
        have Z306 : n0 ≤ T306.heap.size := Nat.le_trans Z304 Kq306.1
        have K306 : Keep h0 T306.heap [a1, b1, b2, b3] := K304.trans Kq306 (allS (Or.inl (List.mem_of_getElem? (i := 0) rfl)) (allS (Or.inl (List.mem_of_getElem? (i := 1) rfl)) (allS (Or.inl (List.mem_of_getElem? (i := 2) rfl)) all0)))
        have N306 := Fr.app N304 Nq306
        refine own_go (B := T306.setTop (mkF m 145 #[.val (.ref a1), .val (.int p2), .val (.int p3), .val (.int p4), .val (.int z4), .val (.int zA), .val (.int zB), .val (.int (frm18 p2 zA zB cs)), .val (.int zt)] [(.int r'_306)])) (fun t k => st306.trans k) ?_
        refine own_go (B := T306.setTop (mkF m 156 #[.val (.ref a1), .val (.int p2), .val (.int p3), .val (.int p4), .val (.int z4), .val (.int zA), .val (.int zB), .val (.int r'_306), .val (.int zt)] [(.int r'_306), (.int (0 : Int32)), (.int zB), (.int zA), (.int p2), (.ref a1)])) (fun t k => ?_) ?_
        · refine XS.istore X306.here hx rfl (hb hby d14_145) rfl (l' := #[.val (.ref a1), .val (.int p2), .val (.int p3), .val (.int p4), .val (.int z4), .val (.int zA), .val (.int zB), .val (.int r'_306), .val (.int zt)]) rfl ?_
          refine XS.aloadN X306.here hx rfl (hb hby d14_147) rfl rfl ?_
          refine XS.iloadN X306.here hx rfl (hb hby d14_148) rfl ?_
          refine XS.iload X306.here hx rfl (hb hby d14_149) rfl ?_
          refine XS.iload X306.here hx rfl (hb hby d14_151) rfl ?_
          refine XS.iconst X306.here hx rfl (hb hby d14_153) ?_
          refine XS.iload X306.here hx rfl (hb hby d14_154) rfl ?_
          exact k
        obtain ⟨cq309, q309, q309'⟩ := U306_0.cell
        obtain ⟨_, _, ⟨T309, L309, k309, n309⟩, -, X309, ⟨Lc309, hQ309, l309, y309, z309⟩, st309⟩ := X306.privateBack hx (y := (⟨OB, "store", "(IIIII)V"⟩ : MethodName)) hown (mvT hZ (own_w hw 118 rfl)) (mvT hZ (own_w hw 119 rfl)) (own_selp (mvT hZ (own_w hw 50 rfl)) rfl (Cond.privateMethod_at (mvP hZ (own_w hw 120 rfl) (args := #[]))) (mvT hZ (own_w hw 119 rfl)) (by decide)) (Cond.privateMethod_at (mvP hZ (own_w hw 120 rfl) (args := #[]))) (mvT hZ (own_w hw 121 rfl)) (by decide) (backOf (W := 0) (rm24 l Z a0 hw [] a1 p2 zA zB r'_306 b1 b2 b3 k1 k2 k3 ns'_306 bs'_306 cs'_304 sz'_306 cp'_304 n'_306 T306.heap n0 Z306 U306_0 U306_1 U306_2 U306_3 U306_4 U306_5 U306_6 U306_7 U306_8 U306_9 U306_10 U306_11 g_a1 g_b3 ne_a1_b1 ne_a1_b2 ne_a1_b3 ne_b1_b2 ne_b1_b3 ne_b2_b3 Pq306_0.1 Pq306_0.2.1 (by have := Pq300_0.2.2.2.2.2; have := Pq304_0.2.2.2.2.2; omega)) hZ (own_w hw 121 rfl) (own_w hw 5 rfl) (by decide) (by decide)) (g := (mkF m 156 #[.val (.ref a1), .val (.int p2), .val (.int p3), .val (.int p4), .val (.int z4), .val (.int zA), .val (.int zB), .val (.int r'_306), .val (.int zt)] [(.int r'_306), (.int (0 : Int32)), (.int zB), (.int zA), (.int p2), (.ref a1)])) rfl (by rw [hml]; rfl) (Steps.refl _) (a := a1) q309 q309' (argsL := [(.int p2), (.int zA), (.int zB), (.int (0 : Int32)), (.int r'_306)]) (rest := []) (lenOf pd_7 rfl) rfl (by show 2 * 0 + _ ≤ _; exact Nat.le_of_eq rfl) (hb hby d14_156) (fun _ _ => ⟨rfl, rfl, (by decide : 0 + 0 ≤ _), (by decide : 0 + 0 ≤ _)⟩)
        dsimp only [Pt.U, Pt.locs, Pt.cells, Pt.slots] at X309 l309 y309 z309 st309 hQ309
        subst l309 y309 z309
        obtain ⟨rfl, Nq309, Kq309, U309_0, U309_1, U309_2, U309_3, U309_4, U309_5, U309_6, U309_7, U309_8, U309_9, U309_10, U309_11⟩ := hQ309
        have Q310 : Exa Z T309.heap a1 OB := U306_0.keep Kq309
        have Q311 : Arv Z T309.heap b1 k1 .int (256 : Int32) (own_I ns'_306) (.int (0 : Int32)) := U306_9.keep Kq309 (ninS (Ne.symm ne_a1_b1) (ninS ne_b1_b3 nin0))
        have Q312 : Arv Z T309.heap b2 k2 .int (64 : Int32) (own_I bs'_306) (.int (0 : Int32)) := U306_10.keep Kq309 (ninS (Ne.symm ne_a1_b2) (ninS ne_b2_b3 nin0))
        have Z309 : n0 ≤ T309.heap.size := Nat.le_trans Z306 Kq309.1
        have K309 : Keep h0 T309.heap [a1, b1, b2, b3] := K306.trans Kq309 (allS (Or.inl (List.mem_of_getElem? (i := 0) rfl)) (allS (Or.inl (List.mem_of_getElem? (i := 3) rfl)) all0))
        have N309 := Fr.app N306 Nq309
        refine own_go (B := T309.setTop (mkF m 159 #[.val (.ref a1), .val (.int p2), .val (.int p3), .val (.int p4), .val (.int z4), .val (.int zA), .val (.int zB), .val (.int r'_306), .val (.int zt)] [])) (fun t k => st309.trans k) ?_
        refine own_go (B := T309.setTop (mkF m 161 #[.val (.ref a1), .val (.int p2), .val (.int p3), .val (.int p4), .val (.int z4), .val (.int zA), .val (.int zB), .val (.int r'_306), .val (.int zt)] [(.int r'_306)])) (fun t k => ?_) ?_
        · refine XS.iload X309.here hx rfl (hb hby d14_159) rfl ?_
          exact k
        obtain ⟨fs, hr, hrun, hended, hW, hsame⟩ := X309.leave (v := some (.int r'_306)) (fun h => by rw [Bd.returns] at h; cases h)
        refine ⟨_, _, ?_, hrun, hended, _, _, rfl, ?_, ⟨_, rfl⟩, hW, hsame.mono (by decide) (by decide)⟩
        · show Steps p.tables e below (T309.setTop (mkF m 161 #[.val (.ref a1), .val (.int p2), .val (.int p3), .val (.int p4), .val (.int z4), .val (.int zA), .val (.int zB), .val (.int r'_306), .val (.int zt)] [(.int r'_306)])) _
          exact retOut X309 hx Bd.returns rfl (Or.inl ⟨rfl, Or.inl rfl, _, rfl⟩) (hb hby d14_161) hr
        · show Qrm14_1 Z a1 p2 p3 p4 b1 b2 b3 k1 k2 k3 ns bs cs sz cp n h0 n0 _ T309.heap _
          skip
          exact ⟨ns'_306, bs'_306, (own_put cs'_304 (4 * own_e (own_hash p2 zA zB (0 : Int32))) zA zB ((0 : Int32) ||| p2) r'_306), sz'_306, (cp'_304 + (1 : Int64)), n'_306, r'_306, rfl, N309, K309, U309_0, U309_1, U309_2, U309_3, U309_4, U309_5, U309_6, U309_7, U309_8, U309_9, U309_10, U309_11, own_ap_node qI qP qT qA0 qB0 qA1 qB1 Pq300_0 Pq304_0 Pq306_0 (own_en_spec _).2 qc⟩
      · refine own_go (B := T293.setTop (mkF m 159 #[.val (.ref a1), .val (.int p2), .val (.int p3), .val (.int p4), .val (.int z4), .val (.int zA), .val (.int zB), .val (.int (frm18 p2 zA zB cs)), .unset] [])) (fun t k => ?_) ?_
        · refine XS.ifYes X293.here hx rfl (pc0 := 73) (pc' := 159) rfl (hb hby d14_73) rfl ((if0 _ _).trans (flt hc73_294).2.1) (by decide) (by decide) ?_
          exact k
        refine own_go (B := T293.setTop (mkF m 161 #[.val (.ref a1), .val (.int p2), .val (.int p3), .val (.int p4), .val (.int z4), .val (.int zA), .val (.int zB), .val (.int (frm18 p2 zA zB cs)), .unset] [(.int (frm18 p2 zA zB cs))])) (fun t k => ?_) ?_
        · refine XS.iload X293.here hx rfl (hb hby d14_159) rfl ?_
          exact k
        obtain ⟨fs, hr, hrun, hended, hW, hsame⟩ := X293.leave (v := some (.int (frm18 p2 zA zB cs))) (fun h => by rw [Bd.returns] at h; cases h)
        refine ⟨_, _, ?_, hrun, hended, _, _, rfl, ?_, ⟨_, rfl⟩, hW, hsame.mono (by decide) (by decide)⟩
        · show Steps p.tables e below (T293.setTop (mkF m 161 #[.val (.ref a1), .val (.int p2), .val (.int p3), .val (.int p4), .val (.int z4), .val (.int zA), .val (.int zB), .val (.int (frm18 p2 zA zB cs)), .unset] [(.int (frm18 p2 zA zB cs))])) _
          exact retOut X293 hx Bd.returns rfl (Or.inl ⟨rfl, Or.inl rfl, _, rfl⟩) (hb hby d14_161) hr
        · show Qrm14_1 Z a1 p2 p3 p4 b1 b2 b3 k1 k2 k3 ns bs cs sz cp n h0 n0 _ T293.heap _
          rw [e293]
          exact ⟨ns, bs, cs, sz, cp, n, (frm18 p2 zA zB cs), rfl, N293, K0, P0, P1, P2, P3, P4, P5, P6, P7, P8, P9, P10, P11, own_ap_cached qI qs qP hc73_294⟩
    · refine own_go (B := T291.setTop (mkF m 159 #[.val (.ref a1), .val (.int p2), .val (.int p3), .val (.int p4), .val (.int z4), .val (.int zA), .val (.int zB), .val (.int (own_term p2 zA zB)), .unset] [])) (fun t k => ?_) ?_
      · refine XS.ifYes X291.here hx rfl (pc0 := 56) (pc' := 159) rfl (hb hby d14_56) rfl ((if0 _ _).trans (flt hc56_292).2.1) (by decide) (by decide) ?_
        exact k
      refine own_go (B := T291.setTop (mkF m 161 #[.val (.ref a1), .val (.int p2), .val (.int p3), .val (.int p4), .val (.int z4), .val (.int zA), .val (.int zB), .val (.int (own_term p2 zA zB)), .unset] [(.int (own_term p2 zA zB))])) (fun t k => ?_) ?_
      · refine XS.iload X291.here hx rfl (hb hby d14_159) rfl ?_
        exact k
      obtain ⟨fs, hr, hrun, hended, hW, hsame⟩ := X291.leave (v := some (.int (own_term p2 zA zB))) (fun h => by rw [Bd.returns] at h; cases h)
      refine ⟨_, _, ?_, hrun, hended, _, _, rfl, ?_, ⟨_, rfl⟩, hW, hsame.mono (by decide) (by decide)⟩
      · show Steps p.tables e below (T291.setTop (mkF m 161 #[.val (.ref a1), .val (.int p2), .val (.int p3), .val (.int p4), .val (.int z4), .val (.int zA), .val (.int zB), .val (.int (own_term p2 zA zB)), .unset] [(.int (own_term p2 zA zB))])) _
        exact retOut X291 hx Bd.returns rfl (Or.inl ⟨rfl, Or.inl rfl, _, rfl⟩) (hb hby d14_161) hr
      · show Qrm14_1 Z a1 p2 p3 p4 b1 b2 b3 k1 k2 k3 ns bs cs sz cp n h0 n0 _ T291.heap _
        rw [e291]
        exact ⟨ns, bs, cs, sz, cp, n, (own_term p2 zA zB), rfl, N291, K0, P0, P1, P2, P3, P4, P5, P6, P7, P8, P9, P10, P11, own_ap_term qI qs qo qP hc56_292⟩
  refine own_go (B := s₁.setTop (mkF m 2 #[.val (.ref a1), .val (.int p2), .val (.int p3), .val (.int p4), .unset, .unset, .unset, .unset, .unset] [(.int (5 : Int32)), (.int p2)])) (fun t k => ?_) ?_
  · refine XS.iloadN X0.here hx rfl (hb hby d14_0) rfl ?_
    refine XS.iconst X0.here hx rfl (hb hby d14_1) ?_
    exact k
  by_cases hc2_313 : p2 = (5 : Int32)
  · refine own_go (B := s₁.setTop (mkF m 5 #[.val (.ref a1), .val (.int p2), .val (.int p3), .val (.int p4), .unset, .unset, .unset, .unset, .unset] [])) (fun t k => ?_) ?_
    · refine XS.icmpNo X0.here hx rfl (hb hby d14_2) rfl (teq hc2_313).2 ?_
      exact k
    refine own_go (B := s₁.setTop (mkF m 44 #[.val (.ref a1), .val (.int p2), .val (.int p3), .val (.int p4), .val (.int (1 : Int32)), .val (.int p3), .val (.int p4), .unset, .unset] [])) (fun t k => ?_) ?_
    · refine XS.iconst X0.here hx rfl (hb hby d14_5) ?_
      refine XS.goto X0.here hx rfl (pc0 := 6) (pc' := 10) rfl (hb hby d14_6) (by decide) (by decide) ?_
      refine XS.istore X0.here hx rfl (hb hby d14_10) rfl (l' := #[.val (.ref a1), .val (.int p2), .val (.int p3), .val (.int p4), .val (.int (1 : Int32)), .unset, .unset, .unset, .unset]) rfl ?_
      refine XS.iload X0.here hx rfl (hb hby d14_12) rfl ?_
      refine XS.ifNo X0.here hx rfl (hb hby d14_14) rfl ((if0 _ _).trans (feq (by decide : ¬ ((1 : Int32) = (0 : Int32)))).1) ?_
      refine XS.iloadN X0.here hx rfl (hb hby d14_17) rfl ?_
      refine XS.goto X0.here hx rfl (pc0 := 18) (pc' := 26) rfl (hb hby d14_18) (by decide) (by decide) ?_
      refine XS.istore X0.here hx rfl (hb hby d14_26) rfl (l' := #[.val (.ref a1), .val (.int p2), .val (.int p3), .val (.int p4), .val (.int (1 : Int32)), .val (.int p3), .unset, .unset, .unset]) rfl ?_
      refine XS.iload X0.here hx rfl (hb hby d14_28) rfl ?_
      refine XS.ifNo X0.here hx rfl (hb hby d14_30) rfl ((if0 _ _).trans (feq (by decide : ¬ ((1 : Int32) = (0 : Int32)))).1) ?_
      refine XS.iloadN X0.here hx rfl (hb hby d14_33) rfl ?_
      refine XS.goto X0.here hx rfl (pc0 := 34) (pc' := 42) rfl (hb hby d14_34) (by decide) (by decide) ?_
      refine XS.istore X0.here hx rfl (hb hby d14_42) rfl (l' := #[.val (.ref a1), .val (.int p2), .val (.int p3), .val (.int p4), .val (.int (1 : Int32)), .val (.int p3), .val (.int p4), .unset, .unset]) rfl ?_
      exact k
    exact join290 (1 : Int32) p3 p4 s₁ _ (own_pair_5 qa qb qda qdb hc2_313) X0 e0 N0
  · refine own_go (B := s₁.setTop (mkF m 9 #[.val (.ref a1), .val (.int p2), .val (.int p3), .val (.int p4), .unset, .unset, .unset, .unset, .unset] [])) (fun t k => ?_) ?_
    · refine XS.icmpYes X0.here hx rfl (pc0 := 2) (pc' := 9) rfl (hb hby d14_2) rfl (feq hc2_313).2 (by decide) (by decide) ?_
      exact k
    refine own_go (B := s₁.setTop (mkF m 23 #[.val (.ref a1), .val (.int p2), .val (.int p3), .val (.int p4), .val (.int (0 : Int32)), .unset, .unset, .unset, .unset] [(.int p4), (.int p3)])) (fun t k => ?_) ?_
    · refine XS.iconst X0.here hx rfl (hb hby d14_9) ?_
      refine XS.istore X0.here hx rfl (hb hby d14_10) rfl (l' := #[.val (.ref a1), .val (.int p2), .val (.int p3), .val (.int p4), .val (.int (0 : Int32)), .unset, .unset, .unset, .unset]) rfl ?_
      refine XS.iload X0.here hx rfl (hb hby d14_12) rfl ?_
      refine XS.ifYes X0.here hx rfl (pc0 := 14) (pc' := 21) rfl (hb hby d14_14) rfl ((if0 _ _).trans (teq (rfl : (0 : Int32) = (0 : Int32))).1) (by decide) (by decide) ?_
      refine XS.iloadN X0.here hx rfl (hb hby d14_21) rfl ?_
      refine XS.iloadN X0.here hx rfl (hb hby d14_22) rfl ?_
      exact k
    obtain ⟨_, _, ⟨T317, L317, k317, n317⟩, -, X317, ⟨Lc317, hQ317, l317, y317, z317⟩, st317⟩ := Jvm.LawKit.callS X0 hx (y := (⟨"java/lang/Math", "min", "(II)I"⟩ : MethodName)) hown (mvT hZ (own_w hw 16 rfl)) (mvT hZ (own_w hw 17 rfl)) (mvT hZ (own_w hw 18 rfl)) (mvT hZ (own_w hw 19 rfl)) (by decide) (backOf (W := 0) (rm3 l Z a0 hw [] p3 p4 h0 n0 Z0 ) hZ (own_w hw 19 rfl) (own_w hw 18 rfl) (by decide) (by decide)) (g := (mkF m 23 #[.val (.ref a1), .val (.int p2), .val (.int p3), .val (.int p4), .val (.int (0 : Int32)), .unset, .unset, .unset, .unset] [(.int p4), (.int p3)])) rfl (by rw [hml]; rfl) (argsL := [(.int p3), (.int p4)]) (rest := []) (lenOf pd_5 rfl) rfl (by show 2 * 0 + _ ≤ _; exact Nat.le_of_eq rfl) (hb hby d14_23) (fun _ _ => ⟨rfl, e0, (by decide : 0 + 0 ≤ _), (by decide : 0 + 0 ≤ _)⟩)
    dsimp only [Pt.U, Pt.locs, Pt.cells, Pt.slots] at X317 l317 y317 z317 st317 hQ317
    subst l317 y317 z317
    obtain ⟨rfl, Nq317, e317⟩ := hQ317
    have N317 := Fr.app N0 Nq317
    refine own_go (B := T317.setTop (mkF m 26 #[.val (.ref a1), .val (.int p2), .val (.int p3), .val (.int p4), .val (.int (0 : Int32)), .unset, .unset, .unset, .unset] [(.int (frm3 p3 p4))])) st317 ?_
    refine own_go (B := T317.setTop (mkF m 39 #[.val (.ref a1), .val (.int p2), .val (.int p3), .val (.int p4), .val (.int (0 : Int32)), .val (.int (frm3 p3 p4)), .unset, .unset, .unset] [(.int p4), (.int p3)])) (fun t k => ?_) ?_
    · refine XS.istore X317.here hx rfl (hb hby d14_26) rfl (l' := #[.val (.ref a1), .val (.int p2), .val (.int p3), .val (.int p4), .val (.int (0 : Int32)), .val (.int (frm3 p3 p4)), .unset, .unset, .unset]) rfl ?_
      refine XS.iload X317.here hx rfl (hb hby d14_28) rfl ?_
      refine XS.ifYes X317.here hx rfl (pc0 := 30) (pc' := 37) rfl (hb hby d14_30) rfl ((if0 _ _).trans (teq (rfl : (0 : Int32) = (0 : Int32))).1) (by decide) (by decide) ?_
      refine XS.iloadN X317.here hx rfl (hb hby d14_37) rfl ?_
      refine XS.iloadN X317.here hx rfl (hb hby d14_38) rfl ?_
      exact k
    obtain ⟨_, _, ⟨T319, L319, k319, n319⟩, -, X319, ⟨Lc319, hQ319, l319, y319, z319⟩, st319⟩ := Jvm.LawKit.callS X317 hx (y := (⟨"java/lang/Math", "max", "(II)I"⟩ : MethodName)) hown (mvT hZ (own_w hw 83 rfl)) (mvT hZ (own_w hw 84 rfl)) (mvT hZ (own_w hw 18 rfl)) (mvT hZ (own_w hw 85 rfl)) (by decide) (backOf (W := 0) (rm15 l Z a0 hw [] p3 p4 h0 n0 Z0 ) hZ (own_w hw 85 rfl) (own_w hw 18 rfl) (by decide) (by decide)) (g := (mkF m 39 #[.val (.ref a1), .val (.int p2), .val (.int p3), .val (.int p4), .val (.int (0 : Int32)), .val (.int (frm3 p3 p4)), .unset, .unset, .unset] [(.int p4), (.int p3)])) rfl (by rw [hml]; rfl) (argsL := [(.int p3), (.int p4)]) (rest := []) (lenOf pd_5 rfl) rfl (by show 2 * 0 + _ ≤ _; exact Nat.le_of_eq rfl) (hb hby d14_39) (fun _ _ => ⟨rfl, e317, (by decide : 0 + 0 ≤ _), (by decide : 0 + 0 ≤ _)⟩)
    dsimp only [Pt.U, Pt.locs, Pt.cells, Pt.slots] at X319 l319 y319 z319 st319 hQ319
    subst l319 y319 z319
    obtain ⟨rfl, Nq319, e319⟩ := hQ319
    have N319 := Fr.app N317 Nq319
    refine own_go (B := T319.setTop (mkF m 42 #[.val (.ref a1), .val (.int p2), .val (.int p3), .val (.int p4), .val (.int (0 : Int32)), .val (.int (frm3 p3 p4)), .unset, .unset, .unset] [(.int (frm15 p3 p4))])) st319 ?_
    refine own_go (B := T319.setTop (mkF m 44 #[.val (.ref a1), .val (.int p2), .val (.int p3), .val (.int p4), .val (.int (0 : Int32)), .val (.int (frm3 p3 p4)), .val (.int (frm15 p3 p4)), .unset, .unset] [])) (fun t k => ?_) ?_
    · refine XS.istore X319.here hx rfl (hb hby d14_42) rfl (l' := #[.val (.ref a1), .val (.int p2), .val (.int p3), .val (.int p4), .val (.int (0 : Int32)), .val (.int (frm3 p3 p4)), .val (.int (frm15 p3 p4)), .unset, .unset]) rfl ?_
      exact k
    exact join290 (0 : Int32) (frm3 p3 p4) (frm15 p3 p4) T319 _ (own_pair_mm qo qa qb qda qdb hc2_313) X319 e319 N319
def Qrm14_0 (Z : State) (a1 : Addr) (p2 : Int32) (p3 : Int32) (p4 : Int32) (b1 : Addr) (b2 : Addr) (b3 : Addr) (k1 : ClassId) (k2 : ClassId) (k3 : ClassId) (ns : List Int32) (bs : List Int32) (cs : List Int32) (sz : Int32) (cp : Int64) (n : Nat) (h0 : Heap) (n0 : Nat) (v : Option Value) (h : Heap) (L : List Loc) : Prop := ∃ ns' : List Int32, ∃ bs' : List Int32, ∃ cs' : List Int32, ∃ sz' : Int32, ∃ cp' : Int64, ∃ n' : Nat, ∃ r' : Int32, v = some (.int r') ∧ Fr n0 L ∧ Keep h0 h [a1, b1, b2, b3] ∧ Exa Z h a1 OB ∧ Fld Z h a1 OB "variableCount" "I" (.int (3 : Int32)) ∧ Fld Z h a1 OB "maxComputations" "J" (.long (9223372036854775807 : Int64)) ∧ Fld Z h a1 OB "nodes" "[I" (.ref b1) ∧ Fld Z h a1 OB "buckets" "[I" (.ref b2) ∧ Fld Z h a1 OB "cacheBits" "I" (.int (10 : Int32)) ∧ Fld Z h a1 OB "cache" "[I" (.ref b3) ∧ Fld Z h a1 OB "size" "I" (.int sz') ∧ Fld Z h a1 OB "computations" "J" (.long cp') ∧ Arv Z h b1 k1 .int (256 : Int32) (own_I ns') (.int (0 : Int32)) ∧ Arv Z h b2 k2 .int (64 : Int32) (own_I bs') (.int (0 : Int32)) ∧ Arv Z h b3 k3 .int (4096 : Int32) (own_I cs') (.int (0 : Int32)) ∧ (own_AP 7 ns n cp p2 p3 p4 ns' bs' cs' sz' cp' n' r')
theorem efrm14_0 (m : MethodId) (x0 : Addr) (x1 : Int32) (x2 : Int32) (x3 : Int32) : entryFrame m #[(.ref x0), (.int x1), (.int x2), (.int x3)] 9 = mkF m 0 #[.val (.ref x0), .val (.int x1), .val (.int x2), .val (.int x3), .unset, .unset, .unset, .unset, .unset] [] := by first | (simp [entryFrame, mkF, argsToLocals, Value.category]; done) | rfl
set_option maxRecDepth 65536 in
set_option maxHeartbeats 40000000 in
theorem rm14_0 (l : Launch) (Z : State) (a0 : Array Value) (hw : ∀ d ∈ tables_1, d.before a0 Z = true) (ws : List Jvm.Cond) (a1 : Addr) (p2 : Int32) (p3 : Int32) (p4 : Int32) (b1 : Addr) (b2 : Addr) (b3 : Addr) (k1 : ClassId) (k2 : ClassId) (k3 : ClassId) (ns : List Int32) (bs : List Int32) (cs : List Int32) (sz : Int32) (cp : Int64) (n : Nat) (h0 : Heap) (n0 : Nat) (Z0 : n0 ≤ h0.size) (P0 : Exa Z h0 a1 OB) (P1 : Fld Z h0 a1 OB "variableCount" "I" (.int (3 : Int32))) (P2 : Fld Z h0 a1 OB "maxComputations" "J" (.long (9223372036854775807 : Int64))) (P3 : Fld Z h0 a1 OB "nodes" "[I" (.ref b1)) (P4 : Fld Z h0 a1 OB "buckets" "[I" (.ref b2)) (P5 : Fld Z h0 a1 OB "cacheBits" "I" (.int (10 : Int32))) (P6 : Fld Z h0 a1 OB "cache" "[I" (.ref b3)) (P7 : Fld Z h0 a1 OB "size" "I" (.int sz)) (P8 : Fld Z h0 a1 OB "computations" "J" (.long cp)) (P9 : Arv Z h0 b1 k1 .int (256 : Int32) (own_I ns) (.int (0 : Int32))) (P10 : Arv Z h0 b2 k2 .int (64 : Int32) (own_I bs) (.int (0 : Int32))) (P11 : Arv Z h0 b3 k3 .int (4096 : Int32) (own_I cs) (.int (0 : Int32))) (g_a1 : n0 ≤ a1) (g_b1 : n0 ≤ b1) (g_b2 : n0 ≤ b2) (g_b3 : n0 ≤ b3) (ne_a1_b1 : a1 ≠ b1) (ne_a1_b2 : a1 ≠ b2) (ne_a1_b3 : a1 ≠ b3) (ne_b1_b2 : b1 ≠ b2) (ne_b1_b3 : b1 ≠ b3) (ne_b2_b3 : b2 ≠ b3) (qI : own_Inv ns bs cs n) (qs : sz.toInt = (n : Int)) (qw : n + 7 ≤ 64) (qc : 0 ≤ cp.toInt ∧ cp.toInt + 7 ≤ 1000) (qo : p2 = (0 : Int32) ∨ p2 = (1 : Int32) ∨ p2 = (2 : Int32) ∨ p2 = (5 : Int32)) (qa : 0 ≤ p3.toInt ∧ p3.toInt < n) (qb : 0 ≤ p4.toInt ∧ p4.toInt < n) (qda : 0 ≤ own_vr ns p3.toInt.toNat) (qdb : 0 ≤ own_vr ns p4.toInt.toNat) :
    MetFree l (⟨OB, "apply", "(III)I"⟩ : MethodName) (head1 (Jvm.Cond.code (⟨OB, "apply", "(III)I"⟩ : MethodName) prog_103_method_19_code 9 (some .int) :: ws) ({ frames := 5, cells := 0, slots := 0, locals := 97 } : Room)) (fun a U => a = #[(.ref a1), (.int p2), (.int p3), (.int p4)] ∧ Z.Warmed39 U.vm ∧ U.heap = h0) (fun _ _ _ _ _ => True) (fun _ U o U' => ∃ v L, o = .returned v ∧ Qrm14_0 Z a1 p2 p3 p4 b1 b2 b3 k1 k2 k3 ns bs cs sz cp n h0 n0 v U'.heap L ∧ FrameEnd U o U' L ({ frames := 5, cells := 0, slots := 0, locals := 97 } : Room).cells ({ frames := 5, cells := 0, slots := 0, locals := 97 } : Room).slots) := by
  refine MetFree.of_bodySF (plainFor_of_name pn_0) hisR ?_
  intro p e s m args below meth c s₁ Bd hml0 hP hK
  obtain ⟨rfl, hZ, hh⟩ := hP
  have hx := Bd.exec
  have hby := Bd.bytes
  have hml : c.maxLocals = 9 := hml0
  have hown : s.vm.findClass OB = some m.cls := findClass_of_methodNamed Bd.named
  have hnm := (name_of_methodNamed Bd.named Bd.method).1
  have X0 : Stand p l e ({ frames := 5, cells := 0, slots := 0, locals := 97 } : Room) s m #[(.ref a1), (.int p2), (.int p3), (.int p4)] below meth c s₁ [] 0 0 := Stand.of_body Bd
  have e0 : s₁.heap = h0 := by rw [← hh, Bd.state]; rfl
  have N0 := Fr.nil n0
  have K0 : Keep h0 h0 [a1, b1, b2, b3] := Keep.refl h0 _
  refine own_go (B := s₁.setTop (mkF m 0 #[.val (.ref a1), .val (.int p2), .val (.int p3), .val (.int p4), .unset, .unset, .unset, .unset, .unset] [])) (fun t k => castTop (efrm14_0 m a1 p2 p3 p4) k) ?_
  have join320 : ∀ (z4 : Int32) (zA : Int32) (zB : Int32) (Tq320 : State) (Lq320 : List Loc), own_pair ns n 0 p2 p3 p4 zA zB → Stand p l e ({ frames := 5, cells := 0, slots := 0, locals := 97 } : Room) s m #[(.ref a1), (.int p2), (.int p3), (.int p4)] below meth c Tq320 Lq320 0 0 → Tq320.heap = h0 → Fr n0 Lq320 → ∃ s₂ o, Steps p.tables e below (Tq320.setTop (mkF m 44 #[.val (.ref a1), .val (.int p2), .val (.int p3), .val (.int p4), .val (.int z4), .val (.int zA), .val (.int zB), .unset, .unset] [])) s₂ ∧ s₂.status = .running ∧ Ended s₂ below o ∧ ∃ v L, o = .returned v ∧ Qrm14_0 Z a1 p2 p3 p4 b1 b2 b3 k1 k2 k3 ns bs cs sz cp n h0 n0 v s₂.heap L ∧ FrameEnd s o s₂ L ({ frames := 5, cells := 0, slots := 0, locals := 97 } : Room).cells ({ frames := 5, cells := 0, slots := 0, locals := 97 } : Room).slots := by
    intro z4 zA zB Tq320 Lq320 qP Xq320 eq320 Nq320
    refine own_go (B := Tq320.setTop (mkF m 49 #[.val (.ref a1), .val (.int p2), .val (.int p3), .val (.int p4), .val (.int z4), .val (.int zA), .val (.int zB), .unset, .unset] [(.int zB), (.int zA), (.int p2)])) (fun t k => ?_) ?_
    · refine XS.iloadN Xq320.here hx rfl (hb hby d14_44) rfl ?_
      refine XS.iload Xq320.here hx rfl (hb hby d14_45) rfl ?_
      refine XS.iload Xq320.here hx rfl (hb hby d14_47) rfl ?_
      exact k
    obtain ⟨_, _, ⟨T321, L321, k321, n321⟩, -, X321, ⟨Lc321, hQ321, l321, y321, z321⟩, st321⟩ := Jvm.LawKit.callS Xq320 hx (y := (⟨OB, "terminal", "(III)I"⟩ : MethodName)) hown (mvT hZ (own_w hw 86 rfl)) (mvT hZ (own_w hw 87 rfl)) (mvT hZ (own_w hw 5 rfl)) (mvT hZ (own_w hw 88 rfl)) (by decide) (backOf (W := 0) (rm16 l Z a0 hw [] p2 zA zB h0 n0 Z0 ) hZ (own_w hw 88 rfl) (own_w hw 5 rfl) (by decide) (by decide)) (g := (mkF m 49 #[.val (.ref a1), .val (.int p2), .val (.int p3), .val (.int p4), .val (.int z4), .val (.int zA), .val (.int zB), .unset, .unset] [(.int zB), (.int zA), (.int p2)])) rfl (by rw [hml]; rfl) (argsL := [(.int p2), (.int zA), (.int zB)]) (rest := []) (lenOf pd_4 rfl) rfl (by show 2 * 0 + _ ≤ _; exact Nat.le_of_eq rfl) (hb hby d14_49) (fun _ _ => ⟨rfl, eq320, (by decide : 0 + 0 ≤ _), (by decide : 0 + 0 ≤ _)⟩)
    dsimp only [Pt.U, Pt.locs, Pt.cells, Pt.slots] at X321 l321 y321 z321 st321 hQ321
    subst l321 y321 z321
    obtain ⟨rfl, Nq321, e321⟩ := hQ321
    have N321 := Fr.app Nq320 Nq321
    refine own_go (B := T321.setTop (mkF m 52 #[.val (.ref a1), .val (.int p2), .val (.int p3), .val (.int p4), .val (.int z4), .val (.int zA), .val (.int zB), .unset, .unset] [(.int (own_term p2 zA zB))])) st321 ?_
    refine own_go (B := T321.setTop (mkF m 56 #[.val (.ref a1), .val (.int p2), .val (.int p3), .val (.int p4), .val (.int z4), .val (.int zA), .val (.int zB), .val (.int (own_term p2 zA zB)), .unset] [(.int (own_term p2 zA zB))])) (fun t k => ?_) ?_
    · refine XS.istore X321.here hx rfl (hb hby d14_52) rfl (l' := #[.val (.ref a1), .val (.int p2), .val (.int p3), .val (.int p4), .val (.int z4), .val (.int zA), .val (.int zB), .val (.int (own_term p2 zA zB)), .unset]) rfl ?_
      refine XS.iload X321.here hx rfl (hb hby d14_54) rfl ?_
      exact k
    by_cases hc56_322 : (own_term p2 zA zB) < (0 : Int32)
    · refine own_go (B := T321.setTop (mkF m 59 #[.val (.ref a1), .val (.int p2), .val (.int p3), .val (.int p4), .val (.int z4), .val (.int zA), .val (.int zB), .val (.int (own_term p2 zA zB)), .unset] [])) (fun t k => ?_) ?_
      · refine XS.ifNo X321.here hx rfl (hb hby d14_56) rfl ((if0 _ _).trans (tlt hc56_322).2.1) ?_
        exact k
      refine own_go (B := T321.setTop (mkF m 66 #[.val (.ref a1), .val (.int p2), .val (.int p3), .val (.int p4), .val (.int z4), .val (.int zA), .val (.int zB), .val (.int (own_term p2 zA zB)), .unset] [(.int (0 : Int32)), (.int zB), (.int zA), (.int p2), (.ref a1)])) (fun t k => ?_) ?_
      · refine XS.aloadN X321.here hx rfl (hb hby d14_59) rfl rfl ?_
        refine XS.iloadN X321.here hx rfl (hb hby d14_60) rfl ?_
        refine XS.iload X321.here hx rfl (hb hby d14_61) rfl ?_
        refine XS.iload X321.here hx rfl (hb hby d14_63) rfl ?_
        refine XS.iconst X321.here hx rfl (hb hby d14_65) ?_
        exact k
      obtain ⟨cq323, q323, q323'⟩ := P0.cell
      obtain ⟨_, _, ⟨T323, L323, k323, n323⟩, -, X323, ⟨Lc323, hQ323, l323, y323, z323⟩, st323⟩ := X321.privateBack hx (y := (⟨OB, "cached", "(IIII)I"⟩ : MethodName)) hown (mvT hZ (own_w hw 94 rfl)) (mvT hZ (own_w hw 95 rfl)) (own_selp (mvT hZ (own_w hw 50 rfl)) rfl (Cond.privateMethod_at (mvP hZ (own_w hw 96 rfl) (args := #[]))) (mvT hZ (own_w hw 95 rfl)) (by decide)) (Cond.privateMethod_at (mvP hZ (own_w hw 96 rfl) (args := #[]))) (mvT hZ (own_w hw 97 rfl)) (by decide) (backOf (W := 0) (rm18 l Z a0 hw [] a1 p2 zA zB b3 k3 cs h0 n0 Z0 P0 P5 P6 P11) hZ (own_w hw 97 rfl) (own_w hw 5 rfl) (by decide) (by decide)) (g := (mkF m 66 #[.val (.ref a1), .val (.int p2), .val (.int p3), .val (.int p4), .val (.int z4), .val (.int zA), .val (.int zB), .val (.int (own_term p2 zA zB)), .unset] [(.int (0 : Int32)), (.int zB), (.int zA), (.int p2), (.ref a1)])) rfl (by rw [hml]; rfl) (Steps.refl _) (a := a1) (by rw [e321]; exact q323) q323' (argsL := [(.int p2), (.int zA), (.int zB), (.int (0 : Int32))]) (rest := []) (lenOf pd_0 rfl) rfl (by show 2 * 0 + _ ≤ _; exact Nat.le_of_eq rfl) (hb hby d14_66) (fun _ _ => ⟨rfl, e321, (by decide : 0 + 0 ≤ _), (by decide : 0 + 0 ≤ _)⟩)
      dsimp only [Pt.U, Pt.locs, Pt.cells, Pt.slots] at X323 l323 y323 z323 st323 hQ323
      subst l323 y323 z323
      obtain ⟨rfl, Nq323, e323⟩ := hQ323
      have N323 := Fr.app N321 Nq323
      refine own_go (B := T323.setTop (mkF m 69 #[.val (.ref a1), .val (.int p2), .val (.int p3), .val (.int p4), .val (.int z4), .val (.int zA), .val (.int zB), .val (.int (own_term p2 zA zB)), .unset] [(.int (frm18 p2 zA zB cs))])) (fun t k => st323.trans k) ?_
      refine own_go (B := T323.setTop (mkF m 73 #[.val (.ref a1), .val (.int p2), .val (.int p3), .val (.int p4), .val (.int z4), .val (.int zA), .val (.int zB), .val (.int (frm18 p2 zA zB cs)), .unset] [(.int (frm18 p2 zA zB cs))])) (fun t k => ?_) ?_
      · refine XS.istore X323.here hx rfl (hb hby d14_69) rfl (l' := #[.val (.ref a1), .val (.int p2), .val (.int p3), .val (.int p4), .val (.int z4), .val (.int zA), .val (.int zB), .val (.int (frm18 p2 zA zB cs)), .unset]) rfl ?_
        refine XS.iload X323.here hx rfl (hb hby d14_71) rfl ?_
        exact k
      by_cases hc73_324 : (frm18 p2 zA zB cs) < (0 : Int32)
      · refine own_go (B := T323.setTop (mkF m 76 #[.val (.ref a1), .val (.int p2), .val (.int p3), .val (.int p4), .val (.int z4), .val (.int zA), .val (.int zB), .val (.int (frm18 p2 zA zB cs)), .unset] [])) (fun t k => ?_) ?_
        · refine XS.ifNo X323.here hx rfl (hb hby d14_73) rfl ((if0 _ _).trans (tlt hc73_324).2.1) ?_
          exact k
        refine own_go (B := T323.setTop (mkF m 79 #[.val (.ref a1), .val (.int p2), .val (.int p3), .val (.int p4), .val (.int z4), .val (.int zA), .val (.int zB), .val (.int (frm18 p2 zA zB cs)), .unset] [(.int zA), (.ref a1)])) (fun t k => ?_) ?_
        · refine XS.aloadN X323.here hx rfl (hb hby d14_76) rfl rfl ?_
          refine XS.iload X323.here hx rfl (hb hby d14_77) rfl ?_
          exact k
        obtain ⟨cq325, q325, q325'⟩ := P0.cell
        obtain ⟨_, _, ⟨T325, L325, k325, n325⟩, -, X325, ⟨Lc325, hQ325, l325, y325, z325⟩, st325⟩ := X323.privateBack hx (y := (⟨OB, "variableOf", "(I)I"⟩ : MethodName)) hown (mvT hZ (own_w hw 102 rfl)) (mvT hZ (own_w hw 103 rfl)) (own_selp (mvT hZ (own_w hw 50 rfl)) rfl (Cond.privateMethod_at (mvP hZ (own_w hw 104 rfl) (args := #[]))) (mvT hZ (own_w hw 103 rfl)) (by decide)) (Cond.privateMethod_at (mvP hZ (own_w hw 104 rfl) (args := #[]))) (mvT hZ (own_w hw 105 rfl)) (by decide) (backOf (W := 0) (rm20 l Z a0 hw [] a1 zA b1 k1 ns (zA.toInt.toNat) h0 n0 Z0 P3 P9 (own_nn qP.1.1) (by have := qI.1.2.2.1; have := qP.1; have := qP.2.1; omega)) hZ (own_w hw 105 rfl) (own_w hw 5 rfl) (by decide) (by decide)) (g := (mkF m 79 #[.val (.ref a1), .val (.int p2), .val (.int p3), .val (.int p4), .val (.int z4), .val (.int zA), .val (.int zB), .val (.int (frm18 p2 zA zB cs)), .unset] [(.int zA), (.ref a1)])) rfl (by rw [hml]; rfl) (Steps.refl _) (a := a1) (by rw [e323]; exact q325) q325' (argsL := [(.int zA)]) (rest := []) (lenOf pd_2 rfl) rfl (by show 2 * 0 + _ ≤ _; exact Nat.le_of_eq rfl) (hb hby d14_79) (fun _ _ => ⟨rfl, e323, (by decide : 0 + 0 ≤ _), (by decide : 0 + 0 ≤ _)⟩)
        dsimp only [Pt.U, Pt.locs, Pt.cells, Pt.slots] at X325 l325 y325 z325 st325 hQ325
        subst l325 y325 z325
        obtain ⟨rfl, Nq325, e325⟩ := hQ325
        have N325 := Fr.app N323 Nq325
        refine own_go (B := T325.setTop (mkF m 82 #[.val (.ref a1), .val (.int p2), .val (.int p3), .val (.int p4), .val (.int z4), .val (.int zA), .val (.int zB), .val (.int (frm18 p2 zA zB cs)), .unset] [(.int (ns.getD (4 * (zA.toInt.toNat)) 0))])) (fun t k => st325.trans k) ?_
        refine own_go (B := T325.setTop (mkF m 85 #[.val (.ref a1), .val (.int p2), .val (.int p3), .val (.int p4), .val (.int z4), .val (.int zA), .val (.int zB), .val (.int (frm18 p2 zA zB cs)), .unset] [(.int zB), (.ref a1), (.int (ns.getD (4 * (zA.toInt.toNat)) 0))])) (fun t k => ?_) ?_
        · refine XS.aloadN X325.here hx rfl (hb hby d14_82) rfl rfl ?_
          refine XS.iload X325.here hx rfl (hb hby d14_83) rfl ?_
          exact k
        obtain ⟨cq326, q326, q326'⟩ := P0.cell
        obtain ⟨_, _, ⟨T326, L326, k326, n326⟩, -, X326, ⟨Lc326, hQ326, l326, y326, z326⟩, st326⟩ := X325.privateBack hx (y := (⟨OB, "variableOf", "(I)I"⟩ : MethodName)) hown (mvT hZ (own_w hw 102 rfl)) (mvT hZ (own_w hw 103 rfl)) (own_selp (mvT hZ (own_w hw 50 rfl)) rfl (Cond.privateMethod_at (mvP hZ (own_w hw 104 rfl) (args := #[]))) (mvT hZ (own_w hw 103 rfl)) (by decide)) (Cond.privateMethod_at (mvP hZ (own_w hw 104 rfl) (args := #[]))) (mvT hZ (own_w hw 105 rfl)) (by decide) (backOf (W := 1) (rm20 l Z a0 hw [] a1 zB b1 k1 ns (zB.toInt.toNat) h0 n0 Z0 P3 P9 (own_nn qP.2.1.1) (by have := qI.1.2.2.1; have := qP.1; have := qP.2.1; omega)) hZ (own_w hw 105 rfl) (own_w hw 5 rfl) (by decide) (by decide)) (g := (mkF m 85 #[.val (.ref a1), .val (.int p2), .val (.int p3), .val (.int p4), .val (.int z4), .val (.int zA), .val (.int zB), .val (.int (frm18 p2 zA zB cs)), .unset] [(.int zB), (.ref a1), (.int (ns.getD (4 * (zA.toInt.toNat)) 0))])) rfl (by rw [hml]; rfl) (Steps.refl _) (a := a1) (by rw [e325]; exact q326) q326' (argsL := [(.int zB)]) (rest := [(.int (ns.getD (4 * (zA.toInt.toNat)) 0))]) (lenOf pd_2 rfl) rfl (by show 2 * 0 + _ ≤ _; exact Nat.le_of_eq rfl) (hb hby d14_85) (fun _ _ => ⟨rfl, e325, (by decide : 0 + 0 ≤ _), (by decide : 0 + 0 ≤ _)⟩)
        dsimp only [Pt.U, Pt.locs, Pt.cells, Pt.slots] at X326 l326 y326 z326 st326 hQ326
        subst l326 y326 z326
        obtain ⟨rfl, Nq326, e326⟩ := hQ326
        have N326 := Fr.app N325 Nq326
        refine own_go (B := T326.setTop (mkF m 88 #[.val (.ref a1), .val (.int p2), .val (.int p3), .val (.int p4), .val (.int z4), .val (.int zA), .val (.int zB), .val (.int (frm18 p2 zA zB cs)), .unset] [(.int (ns.getD (4 * (zB.toInt.toNat)) 0)), (.int (ns.getD (4 * (zA.toInt.toNat)) 0))])) (fun t k => st326.trans k) ?_
        obtain ⟨_, _, ⟨T327, L327, k327, n327⟩, -, X327, ⟨Lc327, hQ327, l327, y327, z327⟩, st327⟩ := Jvm.LawKit.callS X326 hx (y := (⟨"java/lang/Math", "min", "(II)I"⟩ : MethodName)) hown (mvT hZ (own_w hw 16 rfl)) (mvT hZ (own_w hw 17 rfl)) (mvT hZ (own_w hw 18 rfl)) (mvT hZ (own_w hw 19 rfl)) (by decide) (backOf (W := 0) (rm3 l Z a0 hw [] (ns.getD (4 * (zA.toInt.toNat)) 0) (ns.getD (4 * (zB.toInt.toNat)) 0) h0 n0 Z0 ) hZ (own_w hw 19 rfl) (own_w hw 18 rfl) (by decide) (by decide)) (g := (mkF m 88 #[.val (.ref a1), .val (.int p2), .val (.int p3), .val (.int p4), .val (.int z4), .val (.int zA), .val (.int zB), .val (.int (frm18 p2 zA zB cs)), .unset] [(.int (ns.getD (4 * (zB.toInt.toNat)) 0)), (.int (ns.getD (4 * (zA.toInt.toNat)) 0))])) rfl (by rw [hml]; rfl) (argsL := [(.int (ns.getD (4 * (zA.toInt.toNat)) 0)), (.int (ns.getD (4 * (zB.toInt.toNat)) 0))]) (rest := []) (lenOf pd_5 rfl) rfl (by show 2 * 0 + _ ≤ _; exact Nat.le_of_eq rfl) (hb hby d14_88) (fun _ _ => ⟨rfl, e326, (by decide : 0 + 0 ≤ _), (by decide : 0 + 0 ≤ _)⟩)
        dsimp only [Pt.U, Pt.locs, Pt.cells, Pt.slots] at X327 l327 y327 z327 st327 hQ327
        subst l327 y327 z327
        obtain ⟨rfl, Nq327, e327⟩ := hQ327
        have N327 := Fr.app N326 Nq327
        refine own_go (B := T327.setTop (mkF m 91 #[.val (.ref a1), .val (.int p2), .val (.int p3), .val (.int p4), .val (.int z4), .val (.int zA), .val (.int zB), .val (.int (frm18 p2 zA zB cs)), .unset] [(.int (frm3 (ns.getD (4 * (zA.toInt.toNat)) 0) (ns.getD (4 * (zB.toInt.toNat)) 0)))])) st327 ?_
        refine own_go (B := T327.setTop (mkF m 93 #[.val (.ref a1), .val (.int p2), .val (.int p3), .val (.int p4), .val (.int z4), .val (.int zA), .val (.int zB), .val (.int (frm18 p2 zA zB cs)), .val (.int (frm3 (ns.getD (4 * (zA.toInt.toNat)) 0) (ns.getD (4 * (zB.toInt.toNat)) 0)))] [])) (fun t k => ?_) ?_
        · refine XS.istore X327.here hx rfl (hb hby d14_91) rfl (l' := #[.val (.ref a1), .val (.int p2), .val (.int p3), .val (.int p4), .val (.int z4), .val (.int zA), .val (.int zB), .val (.int (frm18 p2 zA zB cs)), .val (.int (frm3 (ns.getD (4 * (zA.toInt.toNat)) 0) (ns.getD (4 * (zB.toInt.toNat)) 0)))]) rfl ?_
          exact k
        have qT := own_top_spec qI.1 qo qP hc56_322
        dsimp only at qT
        obtain ⟨zt, h_zt⟩ : ∃ z, z = (frm3 (ns.getD (4 * (zA.toInt.toNat)) 0) (ns.getD (4 * (zB.toInt.toNat)) 0)) := ⟨_, rfl⟩
        rw [← h_zt] at qT ⊢
        have qA0 := own_cof qI.1 qP.1 qT.1 qT.2.1
        have qB0 := own_cof qI.1 qP.2.1 qT.1 qT.2.2.1
        refine own_go (B := T327.setTop (mkF m 104 #[.val (.ref a1), .val (.int p2), .val (.int p3), .val (.int p4), .val (.int z4), .val (.int zA), .val (.int zB), .val (.int (frm18 p2 zA zB cs)), .val (.int zt)] [(.int (0 : Int32)), (.int zt), (.int zA), (.ref a1), (.int p2), (.ref a1), (.int zt), (.ref a1)])) (fun t k => ?_) ?_
        · refine XS.aloadN X327.here hx rfl (hb hby d14_93) rfl rfl ?_
          refine XS.iload X327.here hx rfl (hb hby d14_94) rfl ?_
          refine XS.aloadN X327.here hx rfl (hb hby d14_96) rfl rfl ?_
          refine XS.iloadN X327.here hx rfl (hb hby d14_97) rfl ?_
          refine XS.aloadN X327.here hx rfl (hb hby d14_98) rfl rfl ?_
          refine XS.iload X327.here hx rfl (hb hby d14_99) rfl ?_
          refine XS.iload X327.here hx rfl (hb hby d14_101) rfl ?_
          refine XS.iconst X327.here hx rfl (hb hby d14_103) ?_
          exact k
        obtain ⟨cq328, q328, q328'⟩ := P0.cell
        obtain ⟨_, _, ⟨T328, L328, k328, n328⟩, -, X328, ⟨Lc328, hQ328, l328, y328, z328⟩, st328⟩ := X327.privateBack hx (y := (⟨OB, "cofactor", "(IIZ)I"⟩ : MethodName)) hown (mvT hZ (own_w hw 106 rfl)) (mvT hZ (own_w hw 107 rfl)) (own_selp (mvT hZ (own_w hw 50 rfl)) rfl (Cond.privateMethod_at (mvP hZ (own_w hw 108 rfl) (args := #[]))) (mvT hZ (own_w hw 107 rfl)) (by decide)) (Cond.privateMethod_at (mvP hZ (own_w hw 108 rfl) (args := #[]))) (mvT hZ (own_w hw 109 rfl)) (by decide) (backOf (W := 4) (rm21_0 l Z a0 hw [] a1 zA zt b1 k1 ns (zA.toInt.toNat) h0 n0 Z0 P0 P3 P9 (own_nn qP.1.1) (by have := qI.1.2.2.1; have := qP.1; have := qP.2.1; omega)) hZ (own_w hw 109 rfl) (own_w hw 5 rfl) (by decide) (by decide)) (g := (mkF m 104 #[.val (.ref a1), .val (.int p2), .val (.int p3), .val (.int p4), .val (.int z4), .val (.int zA), .val (.int zB), .val (.int (frm18 p2 zA zB cs)), .val (.int zt)] [(.int (0 : Int32)), (.int zt), (.int zA), (.ref a1), (.int p2), (.ref a1), (.int zt), (.ref a1)])) rfl (by rw [hml]; rfl) (Steps.refl _) (a := a1) (by rw [e327]; exact q328) q328' (argsL := [(.int zA), (.int zt), (.int (0 : Int32))]) (rest := [(.int p2), (.ref a1), (.int zt), (.ref a1)]) (lenOf pd_6 rfl) rfl (by show 2 * 0 + _ ≤ _; exact Nat.le_of_eq rfl) (hb hby d14_104) (fun _ _ => ⟨rfl, e327, (by decide : 0 + 0 ≤ _), (by decide : 0 + 0 ≤ _)⟩)
        dsimp only [Pt.U, Pt.locs, Pt.cells, Pt.slots] at X328 l328 y328 z328 st328 hQ328
        subst l328 y328 z328
        obtain ⟨rfl, Nq328, e328⟩ := hQ328
        have N328 := Fr.app N327 Nq328
        refine own_go (B := T328.setTop (mkF m 107 #[.val (.ref a1), .val (.int p2), .val (.int p3), .val (.int p4), .val (.int z4), .val (.int zA), .val (.int zB), .val (.int (frm18 p2 zA zB cs)), .val (.int zt)] [(.int (frm21_0 zA zt ns (zA.toInt.toNat))), (.int p2), (.ref a1), (.int zt), (.ref a1)])) (fun t k => st328.trans k) ?_
        obtain ⟨cA0, h_cA0⟩ : ∃ z, z = (frm21_0 zA zt ns (zA.toInt.toNat)) := ⟨_, rfl⟩
        rw [← h_cA0] at qA0 ⊢
        refine own_go (B := T328.setTop (mkF m 113 #[.val (.ref a1), .val (.int p2), .val (.int p3), .val (.int p4), .val (.int z4), .val (.int zA), .val (.int zB), .val (.int (frm18 p2 zA zB cs)), .val (.int zt)] [(.int (0 : Int32)), (.int zt), (.int zB), (.ref a1), (.int cA0), (.int p2), (.ref a1), (.int zt), (.ref a1)])) (fun t k => ?_) ?_
        · refine XS.aloadN X328.here hx rfl (hb hby d14_107) rfl rfl ?_
          refine XS.iload X328.here hx rfl (hb hby d14_108) rfl ?_
          refine XS.iload X328.here hx rfl (hb hby d14_110) rfl ?_
          refine XS.iconst X328.here hx rfl (hb hby d14_112) ?_
          exact k
        obtain ⟨cq329, q329, q329'⟩ := P0.cell
        obtain ⟨_, _, ⟨T329, L329, k329, n329⟩, -, X329, ⟨Lc329, hQ329, l329, y329, z329⟩, st329⟩ := X328.privateBack hx (y := (⟨OB, "cofactor", "(IIZ)I"⟩ : MethodName)) hown (mvT hZ (own_w hw 106 rfl)) (mvT hZ (own_w hw 107 rfl)) (own_selp (mvT hZ (own_w hw 50 rfl)) rfl (Cond.privateMethod_at (mvP hZ (own_w hw 108 rfl) (args := #[]))) (mvT hZ (own_w hw 107 rfl)) (by decide)) (Cond.privateMethod_at (mvP hZ (own_w hw 108 rfl) (args := #[]))) (mvT hZ (own_w hw 109 rfl)) (by decide) (backOf (W := 5) (rm21_0 l Z a0 hw [] a1 zB zt b1 k1 ns (zB.toInt.toNat) h0 n0 Z0 P0 P3 P9 (own_nn qP.2.1.1) (by have := qI.1.2.2.1; have := qP.1; have := qP.2.1; omega)) hZ (own_w hw 109 rfl) (own_w hw 5 rfl) (by decide) (by decide)) (g := (mkF m 113 #[.val (.ref a1), .val (.int p2), .val (.int p3), .val (.int p4), .val (.int z4), .val (.int zA), .val (.int zB), .val (.int (frm18 p2 zA zB cs)), .val (.int zt)] [(.int (0 : Int32)), (.int zt), (.int zB), (.ref a1), (.int cA0), (.int p2), (.ref a1), (.int zt), (.ref a1)])) rfl (by rw [hml]; rfl) (Steps.refl _) (a := a1) (by rw [e328]; exact q329) q329' (argsL := [(.int zB), (.int zt), (.int (0 : Int32))]) (rest := [(.int cA0), (.int p2), (.ref a1), (.int zt), (.ref a1)]) (lenOf pd_6 rfl) rfl (by show 2 * 0 + _ ≤ _; exact Nat.le_of_eq rfl) (hb hby d14_113) (fun _ _ => ⟨rfl, e328, (by decide : 0 + 0 ≤ _), (by decide : 0 + 0 ≤ _)⟩)
        dsimp only [Pt.U, Pt.locs, Pt.cells, Pt.slots] at X329 l329 y329 z329 st329 hQ329
        subst l329 y329 z329
        obtain ⟨rfl, Nq329, e329⟩ := hQ329
        have N329 := Fr.app N328 Nq329
        refine own_go (B := T329.setTop (mkF m 116 #[.val (.ref a1), .val (.int p2), .val (.int p3), .val (.int p4), .val (.int z4), .val (.int zA), .val (.int zB), .val (.int (frm18 p2 zA zB cs)), .val (.int zt)] [(.int (frm21_0 zB zt ns (zB.toInt.toNat))), (.int cA0), (.int p2), (.ref a1), (.int zt), (.ref a1)])) (fun t k => st329.trans k) ?_
        obtain ⟨cB0, h_cB0⟩ : ∃ z, z = (frm21_0 zB zt ns (zB.toInt.toNat)) := ⟨_, rfl⟩
        rw [← h_cB0] at qB0 ⊢
        obtain ⟨cq330, q330, q330'⟩ := P0.cell
        obtain ⟨_, _, ⟨T330, L330, k330, n330⟩, -, X330, ⟨Lc330, hQ330, l330, y330, z330⟩, st330⟩ := X329.privateBack hx (y := (⟨OB, "apply", "(III)I"⟩ : MethodName)) hown (mvT hZ (own_w hw 79 rfl)) (mvT hZ (own_w hw 80 rfl)) (own_selp (mvT hZ (own_w hw 50 rfl)) rfl (Cond.privateMethod_at (mvP hZ (own_w hw 81 rfl) (args := #[]))) (mvT hZ (own_w hw 80 rfl)) (by decide)) (Cond.privateMethod_at (mvP hZ (own_w hw 81 rfl) (args := #[]))) (mvT hZ (own_w hw 82 rfl)) (by decide) (backOf (W := 2) (rm14_1 l Z a0 hw [] a1 p2 cA0 cB0 b1 b2 b3 k1 k2 k3 ns bs cs sz cp n h0 n0 Z0 P0 P1 P2 P3 P4 P5 P6 P7 P8 P9 P10 P11 g_a1 g_b1 g_b2 g_b3 ne_a1_b1 ne_a1_b2 ne_a1_b3 ne_b1_b2 ne_b1_b3 ne_b2_b3 qI qs (by omega) (by omega) qo qA0.1.1 qB0.1.1 (own_dlt qT.2.2.2.2 qA0.1.2) (own_dlt qT.2.2.2.2 qB0.1.2)) hZ (own_w hw 82 rfl) (own_w hw 5 rfl) (by decide) (by decide)) (g := (mkF m 116 #[.val (.ref a1), .val (.int p2), .val (.int p3), .val (.int p4), .val (.int z4), .val (.int zA), .val (.int zB), .val (.int (frm18 p2 zA zB cs)), .val (.int zt)] [(.int cB0), (.int cA0), (.int p2), (.ref a1), (.int zt), (.ref a1)])) rfl (by rw [hml]; rfl) (Steps.refl _) (a := a1) (by rw [e329]; exact q330) q330' (argsL := [(.int p2), (.int cA0), (.int cB0)]) (rest := [(.int zt), (.ref a1)]) (lenOf pd_4 rfl) rfl (by show 2 * 0 + _ ≤ _; exact Nat.le_of_eq rfl) (hb hby d14_116) (fun _ _ => ⟨rfl, e329, (by decide : 0 + 0 ≤ _), (by decide : 0 + 0 ≤ _)⟩)
        dsimp only [Pt.U, Pt.locs, Pt.cells, Pt.slots] at X330 l330 y330 z330 st330 hQ330
        subst l330 y330 z330
        obtain ⟨ns'_330, bs'_330, cs'_330, sz'_330, cp'_330, n'_330, r'_330, rfl, Nq330, Kq330, U330_0, U330_1, U330_2, U330_3, U330_4, U330_5, U330_6, U330_7, U330_8, U330_9, U330_10, U330_11, Pq330_0⟩ := hQ330
        have Q331 : Exa Z T330.heap a1 OB := P0.keep Kq330
        have Z330 : n0 ≤ T330.heap.size := Nat.le_trans Z0 Kq330.1
        have K330 : Keep h0 T330.heap [a1, b1, b2, b3] := K0.trans Kq330 (allS (Or.inl (List.mem_of_getElem? (i := 0) rfl)) (allS (Or.inl (List.mem_of_getElem? (i := 1) rfl)) (allS (Or.inl (List.mem_of_getElem? (i := 2) rfl)) (allS (Or.inl (List.mem_of_getElem? (i := 3) rfl)) all0))))
        have N330 := Fr.app N329 Nq330
        refine own_go (B := T330.setTop (mkF m 119 #[.val (.ref a1), .val (.int p2), .val (.int p3), .val (.int p4), .val (.int z4), .val (.int zA), .val (.int zB), .val (.int (frm18 p2 zA zB cs)), .val (.int zt)] [(.int r'_330), (.int zt), (.ref a1)])) (fun t k => st330.trans k) ?_
        have qA1 := own_cof2 qI.1 Pq330_0.1.1 Pq330_0.2.2.1 Pq330_0.2.2.2.1 qP.1 qT.1 qT.2.1
        have qB1 := own_cof2 qI.1 Pq330_0.1.1 Pq330_0.2.2.1 Pq330_0.2.2.2.1 qP.2.1 qT.1 qT.2.2.1
        rw [← h_cA0] at qA1
        rw [← h_cB0] at qB1
        refine own_go (B := T330.setTop (mkF m 127 #[.val (.ref a1), .val (.int p2), .val (.int p3), .val (.int p4), .val (.int z4), .val (.int zA), .val (.int zB), .val (.int (frm18 p2 zA zB cs)), .val (.int zt)] [(.int (1 : Int32)), (.int zt), (.int zA), (.ref a1), (.int p2), (.ref a1), (.int r'_330), (.int zt), (.ref a1)])) (fun t k => ?_) ?_
        · refine XS.aloadN X330.here hx rfl (hb hby d14_119) rfl rfl ?_
          refine XS.iloadN X330.here hx rfl (hb hby d14_120) rfl ?_
          refine XS.aloadN X330.here hx rfl (hb hby d14_121) rfl rfl ?_
          refine XS.iload X330.here hx rfl (hb hby d14_122) rfl ?_
          refine XS.iload X330.here hx rfl (hb hby d14_124) rfl ?_
          refine XS.iconst X330.here hx rfl (hb hby d14_126) ?_
          exact k
        obtain ⟨cq332, q332, q332'⟩ := U330_0.cell
        obtain ⟨_, _, ⟨T332, L332, k332, n332⟩, -, X332, ⟨Lc332, hQ332, l332, y332, z332⟩, st332⟩ := X330.privateBack hx (y := (⟨OB, "cofactor", "(IIZ)I"⟩ : MethodName)) hown (mvT hZ (own_w hw 106 rfl)) (mvT hZ (own_w hw 107 rfl)) (own_selp (mvT hZ (own_w hw 50 rfl)) rfl (Cond.privateMethod_at (mvP hZ (own_w hw 108 rfl) (args := #[]))) (mvT hZ (own_w hw 107 rfl)) (by decide)) (Cond.privateMethod_at (mvP hZ (own_w hw 108 rfl) (args := #[]))) (mvT hZ (own_w hw 109 rfl)) (by decide) (backOf (W := 5) (rm21_1 l Z a0 hw [] a1 zA zt b1 k1 ns'_330 (zA.toInt.toNat) T330.heap n0 Z330 U330_0 U330_3 U330_9 (own_nn qP.1.1) (by have := qI.1.2.2.1; have := qP.1; have := qP.2.1; omega)) hZ (own_w hw 109 rfl) (own_w hw 5 rfl) (by decide) (by decide)) (g := (mkF m 127 #[.val (.ref a1), .val (.int p2), .val (.int p3), .val (.int p4), .val (.int z4), .val (.int zA), .val (.int zB), .val (.int (frm18 p2 zA zB cs)), .val (.int zt)] [(.int (1 : Int32)), (.int zt), (.int zA), (.ref a1), (.int p2), (.ref a1), (.int r'_330), (.int zt), (.ref a1)])) rfl (by rw [hml]; rfl) (Steps.refl _) (a := a1) q332 q332' (argsL := [(.int zA), (.int zt), (.int (1 : Int32))]) (rest := [(.int p2), (.ref a1), (.int r'_330), (.int zt), (.ref a1)]) (lenOf pd_6 rfl) rfl (by show 2 * 0 + _ ≤ _; exact Nat.le_of_eq rfl) (hb hby d14_127) (fun _ _ => ⟨rfl, rfl, (by decide : 0 + 0 ≤ _), (by decide : 0 + 0 ≤ _)⟩)
        dsimp only [Pt.U, Pt.locs, Pt.cells, Pt.slots] at X332 l332 y332 z332 st332 hQ332
        subst l332 y332 z332
        obtain ⟨rfl, Nq332, e332⟩ := hQ332
        have N332 := Fr.app N330 Nq332
        refine own_go (B := T332.setTop (mkF m 130 #[.val (.ref a1), .val (.int p2), .val (.int p3), .val (.int p4), .val (.int z4), .val (.int zA), .val (.int zB), .val (.int (frm18 p2 zA zB cs)), .val (.int zt)] [(.int (frm21_1 zA zt ns'_330 (zA.toInt.toNat))), (.int p2), (.ref a1), (.int r'_330), (.int zt), (.ref a1)])) (fun t k => st332.trans k) ?_
        obtain ⟨cA1, h_cA1⟩ : ∃ z, z = (frm21_1 zA zt ns'_330 (zA.toInt.toNat)) := ⟨_, rfl⟩
        rw [← h_cA1] at qA1 ⊢
        refine own_go (B := T332.setTop (mkF m 136 #[.val (.ref a1), .val (.int p2), .val (.int p3), .val (.int p4), .val (.int z4), .val (.int zA), .val (.int zB), .val (.int (frm18 p2 zA zB cs)), .val (.int zt)] [(.int (1 : Int32)), (.int zt), (.int zB), (.ref a1), (.int cA1), (.int p2), (.ref a1), (.int r'_330), (.int zt), (.ref a1)])) (fun t k => ?_) ?_
        · refine XS.aloadN X332.here hx rfl (hb hby d14_130) rfl rfl ?_
          refine XS.iload X332.here hx rfl (hb hby d14_131) rfl ?_
          refine XS.iload X332.here hx rfl (hb hby d14_133) rfl ?_
          refine XS.iconst X332.here hx rfl (hb hby d14_135) ?_
          exact k
        obtain ⟨cq333, q333, q333'⟩ := U330_0.cell
        obtain ⟨_, _, ⟨T333, L333, k333, n333⟩, -, X333, ⟨Lc333, hQ333, l333, y333, z333⟩, st333⟩ := X332.privateBack hx (y := (⟨OB, "cofactor", "(IIZ)I"⟩ : MethodName)) hown (mvT hZ (own_w hw 106 rfl)) (mvT hZ (own_w hw 107 rfl)) (own_selp (mvT hZ (own_w hw 50 rfl)) rfl (Cond.privateMethod_at (mvP hZ (own_w hw 108 rfl) (args := #[]))) (mvT hZ (own_w hw 107 rfl)) (by decide)) (Cond.privateMethod_at (mvP hZ (own_w hw 108 rfl) (args := #[]))) (mvT hZ (own_w hw 109 rfl)) (by decide) (backOf (W := 6) (rm21_1 l Z a0 hw [] a1 zB zt b1 k1 ns'_330 (zB.toInt.toNat) T330.heap n0 Z330 U330_0 U330_3 U330_9 (own_nn qP.2.1.1) (by have := qI.1.2.2.1; have := qP.1; have := qP.2.1; omega)) hZ (own_w hw 109 rfl) (own_w hw 5 rfl) (by decide) (by decide)) (g := (mkF m 136 #[.val (.ref a1), .val (.int p2), .val (.int p3), .val (.int p4), .val (.int z4), .val (.int zA), .val (.int zB), .val (.int (frm18 p2 zA zB cs)), .val (.int zt)] [(.int (1 : Int32)), (.int zt), (.int zB), (.ref a1), (.int cA1), (.int p2), (.ref a1), (.int r'_330), (.int zt), (.ref a1)])) rfl (by rw [hml]; rfl) (Steps.refl _) (a := a1) (by rw [e332]; exact q333) q333' (argsL := [(.int zB), (.int zt), (.int (1 : Int32))]) (rest := [(.int cA1), (.int p2), (.ref a1), (.int r'_330), (.int zt), (.ref a1)]) (lenOf pd_6 rfl) rfl (by show 2 * 0 + _ ≤ _; exact Nat.le_of_eq rfl) (hb hby d14_136) (fun _ _ => ⟨rfl, e332, (by decide : 0 + 0 ≤ _), (by decide : 0 + 0 ≤ _)⟩)
        dsimp only [Pt.U, Pt.locs, Pt.cells, Pt.slots] at X333 l333 y333 z333 st333 hQ333
        subst l333 y333 z333
        obtain ⟨rfl, Nq333, e333⟩ := hQ333
        have N333 := Fr.app N332 Nq333
        refine own_go (B := T333.setTop (mkF m 139 #[.val (.ref a1), .val (.int p2), .val (.int p3), .val (.int p4), .val (.int z4), .val (.int zA), .val (.int zB), .val (.int (frm18 p2 zA zB cs)), .val (.int zt)] [(.int (frm21_1 zB zt ns'_330 (zB.toInt.toNat))), (.int cA1), (.int p2), (.ref a1), (.int r'_330), (.int zt), (.ref a1)])) (fun t k => st333.trans k) ?_
        obtain ⟨cB1, h_cB1⟩ : ∃ z, z = (frm21_1 zB zt ns'_330 (zB.toInt.toNat)) := ⟨_, rfl⟩
        rw [← h_cB1] at qB1 ⊢
        obtain ⟨cq334, q334, q334'⟩ := U330_0.cell
        obtain ⟨_, _, ⟨T334, L334, k334, n334⟩, -, X334, ⟨Lc334, hQ334, l334, y334, z334⟩, st334⟩ := X333.privateBack hx (y := (⟨OB, "apply", "(III)I"⟩ : MethodName)) hown (mvT hZ (own_w hw 79 rfl)) (mvT hZ (own_w hw 80 rfl)) (own_selp (mvT hZ (own_w hw 50 rfl)) rfl (Cond.privateMethod_at (mvP hZ (own_w hw 81 rfl) (args := #[]))) (mvT hZ (own_w hw 80 rfl)) (by decide)) (Cond.privateMethod_at (mvP hZ (own_w hw 81 rfl) (args := #[]))) (mvT hZ (own_w hw 82 rfl)) (by decide) (backOf (W := 3) (rm14_1 l Z a0 hw [] a1 p2 cA1 cB1 b1 b2 b3 k1 k2 k3 ns'_330 bs'_330 cs'_330 sz'_330 cp'_330 n'_330 T330.heap n0 Z330 U330_0 U330_1 U330_2 U330_3 U330_4 U330_5 U330_6 U330_7 U330_8 U330_9 U330_10 U330_11 g_a1 g_b1 g_b2 g_b3 ne_a1_b1 ne_a1_b2 ne_a1_b3 ne_b1_b2 ne_b1_b3 ne_b2_b3 Pq330_0.1 Pq330_0.2.1 (by have := Pq330_0.2.2.2.2.1; omega) (by have := Pq330_0.2.2.2.2.2; omega) qo qA1.2.1.1 qB1.2.1.1 (own_dlt qT.2.2.2.2 qA1.2.1.2) (own_dlt qT.2.2.2.2 qB1.2.1.2)) hZ (own_w hw 82 rfl) (own_w hw 5 rfl) (by decide) (by decide)) (g := (mkF m 139 #[.val (.ref a1), .val (.int p2), .val (.int p3), .val (.int p4), .val (.int z4), .val (.int zA), .val (.int zB), .val (.int (frm18 p2 zA zB cs)), .val (.int zt)] [(.int cB1), (.int cA1), (.int p2), (.ref a1), (.int r'_330), (.int zt), (.ref a1)])) rfl (by rw [hml]; rfl) (Steps.refl _) (a := a1) (by rw [e333]; exact q334) q334' (argsL := [(.int p2), (.int cA1), (.int cB1)]) (rest := [(.int r'_330), (.int zt), (.ref a1)]) (lenOf pd_4 rfl) rfl (by show 2 * 0 + _ ≤ _; exact Nat.le_of_eq rfl) (hb hby d14_139) (fun _ _ => ⟨rfl, e333, (by decide : 0 + 0 ≤ _), (by decide : 0 + 0 ≤ _)⟩)
        dsimp only [Pt.U, Pt.locs, Pt.cells, Pt.slots] at X334 l334 y334 z334 st334 hQ334
        subst l334 y334 z334
        obtain ⟨ns'_334, bs'_334, cs'_334, sz'_334, cp'_334, n'_334, r'_334, rfl, Nq334, Kq334, U334_0, U334_1, U334_2, U334_3, U334_4, U334_5, U334_6, U334_7, U334_8, U334_9, U334_10, U334_11, Pq334_0⟩ := hQ334
        have Q335 : Exa Z T334.heap a1 OB := U330_0.keep Kq334
        have Z334 : n0 ≤ T334.heap.size := Nat.le_trans Z330 Kq334.1
        have K334 : Keep h0 T334.heap [a1, b1, b2, b3] := K330.trans Kq334 (allS (Or.inl (List.mem_of_getElem? (i := 0) rfl)) (allS (Or.inl (List.mem_of_getElem? (i := 1) rfl)) (allS (Or.inl (List.mem_of_getElem? (i := 2) rfl)) (allS (Or.inl (List.mem_of_getElem? (i := 3) rfl)) all0))))
        have N334 := Fr.app N333 Nq334
        refine own_go (B := T334.setTop (mkF m 142 #[.val (.ref a1), .val (.int p2), .val (.int p3), .val (.int p4), .val (.int z4), .val (.int zA), .val (.int zB), .val (.int (frm18 p2 zA zB cs)), .val (.int zt)] [(.int r'_334), (.int r'_330), (.int zt), (.ref a1)])) (fun t k => st334.trans k) ?_
        have qL := own_nodeL Pq330_0 Pq334_0 qA0.1.2 qB0.1.2
        have qH := own_nodeH Pq334_0 qA1.2.1.2 qB1.2.1.2
        obtain ⟨cq336, q336, q336'⟩ := U334_0.cell
        obtain ⟨_, _, ⟨T336, L336, k336, n336⟩, -, X336, ⟨Lc336, hQ336, l336, y336, z336⟩, st336⟩ := X334.privateBack hx (y := (⟨OB, "node", "(III)I"⟩ : MethodName)) hown (mvT hZ (own_w hw 56 rfl)) (mvT hZ (own_w hw 57 rfl)) (own_selp (mvT hZ (own_w hw 50 rfl)) rfl (Cond.privateMethod_at (mvP hZ (own_w hw 58 rfl) (args := #[]))) (mvT hZ (own_w hw 57 rfl)) (by decide)) (Cond.privateMethod_at (mvP hZ (own_w hw 58 rfl) (args := #[]))) (mvT hZ (own_w hw 59 rfl)) (by decide) (backOf (W := 0) (rm9 l Z a0 hw [] a1 zt r'_330 r'_334 b1 b2 b3 k1 k2 k3 ns'_334 bs'_334 cs'_334 sz'_334 cp'_334 n'_334 T334.heap n0 Z334 U334_0 U334_1 U334_2 U334_3 U334_4 U334_5 U334_6 U334_7 U334_8 U334_9 U334_10 U334_11 g_a1 g_b1 g_b2 ne_a1_b1 ne_a1_b2 ne_a1_b3 ne_b1_b2 ne_b1_b3 ne_b2_b3 Pq334_0.1 Pq334_0.2.1 (by have := Pq330_0.2.2.2.2.1; have := Pq334_0.2.2.2.2.1; omega) qT.1 qL.1 qH.1 qL.2 qH.2) hZ (own_w hw 59 rfl) (own_w hw 5 rfl) (by decide) (by decide)) (g := (mkF m 142 #[.val (.ref a1), .val (.int p2), .val (.int p3), .val (.int p4), .val (.int z4), .val (.int zA), .val (.int zB), .val (.int (frm18 p2 zA zB cs)), .val (.int zt)] [(.int r'_334), (.int r'_330), (.int zt), (.ref a1)])) rfl (by rw [hml]; rfl) (Steps.refl _) (a := a1) q336 q336' (argsL := [(.int zt), (.int r'_330), (.int r'_334)]) (rest := []) (lenOf pd_4 rfl) rfl (by show 2 * 0 + _ ≤ _; exact Nat.le_of_eq rfl) (hb hby d14_142) (fun _ _ => ⟨rfl, rfl, (by decide : 0 + 0 ≤ _), (by decide : 0 + 0 ≤ _)⟩)
        dsimp only [Pt.U, Pt.locs, Pt.cells, Pt.slots] at X336 l336 y336 z336 st336 hQ336
        subst l336 y336 z336
        obtain ⟨ns'_336, bs'_336, sz'_336, n'_336, r'_336, rfl, Nq336, Kq336, U336_0, U336_1, U336_2, U336_3, U336_4, U336_5, U336_6, U336_7, U336_8, U336_9, U336_10, U336_11, Pq336_0⟩ := hQ336
        have Q337 : Exa Z T336.heap a1 OB := U334_0.keep Kq336
        have Q338 : Arv Z T336.heap b3 k3 .int (4096 : Int32) (own_I cs'_334) (.int (0 : Int32)) := U334_11.keep Kq336 (ninS (Ne.symm ne_a1_b3) (ninS (Ne.symm ne_b1_b3) (ninS (Ne.symm ne_b2_b3) nin0)))
        have Z336 : n0 ≤ T336.heap.size := Nat.le_trans Z334 Kq336.1
        have K336 : Keep h0 T336.heap [a1, b1, b2, b3] := K334.trans Kq336 (allS (Or.inl (List.mem_of_getElem? (i := 0) rfl)) (allS (Or.inl (List.mem_of_getElem? (i := 1) rfl)) (allS (Or.inl (List.mem_of_getElem? (i := 2) rfl)) all0)))
        have N336 := Fr.app N334 Nq336
        refine own_go (B := T336.setTop (mkF m 145 #[.val (.ref a1), .val (.int p2), .val (.int p3), .val (.int p4), .val (.int z4), .val (.int zA), .val (.int zB), .val (.int (frm18 p2 zA zB cs)), .val (.int zt)] [(.int r'_336)])) (fun t k => st336.trans k) ?_
        refine own_go (B := T336.setTop (mkF m 156 #[.val (.ref a1), .val (.int p2), .val (.int p3), .val (.int p4), .val (.int z4), .val (.int zA), .val (.int zB), .val (.int r'_336), .val (.int zt)] [(.int r'_336), (.int (0 : Int32)), (.int zB), (.int zA), (.int p2), (.ref a1)])) (fun t k => ?_) ?_
        · refine XS.istore X336.here hx rfl (hb hby d14_145) rfl (l' := #[.val (.ref a1), .val (.int p2), .val (.int p3), .val (.int p4), .val (.int z4), .val (.int zA), .val (.int zB), .val (.int r'_336), .val (.int zt)]) rfl ?_
          refine XS.aloadN X336.here hx rfl (hb hby d14_147) rfl rfl ?_
          refine XS.iloadN X336.here hx rfl (hb hby d14_148) rfl ?_
          refine XS.iload X336.here hx rfl (hb hby d14_149) rfl ?_
          refine XS.iload X336.here hx rfl (hb hby d14_151) rfl ?_
          refine XS.iconst X336.here hx rfl (hb hby d14_153) ?_
          refine XS.iload X336.here hx rfl (hb hby d14_154) rfl ?_
          exact k
        obtain ⟨cq339, q339, q339'⟩ := U336_0.cell
        obtain ⟨_, _, ⟨T339, L339, k339, n339⟩, -, X339, ⟨Lc339, hQ339, l339, y339, z339⟩, st339⟩ := X336.privateBack hx (y := (⟨OB, "store", "(IIIII)V"⟩ : MethodName)) hown (mvT hZ (own_w hw 118 rfl)) (mvT hZ (own_w hw 119 rfl)) (own_selp (mvT hZ (own_w hw 50 rfl)) rfl (Cond.privateMethod_at (mvP hZ (own_w hw 120 rfl) (args := #[]))) (mvT hZ (own_w hw 119 rfl)) (by decide)) (Cond.privateMethod_at (mvP hZ (own_w hw 120 rfl) (args := #[]))) (mvT hZ (own_w hw 121 rfl)) (by decide) (backOf (W := 0) (rm24 l Z a0 hw [] a1 p2 zA zB r'_336 b1 b2 b3 k1 k2 k3 ns'_336 bs'_336 cs'_334 sz'_336 cp'_334 n'_336 T336.heap n0 Z336 U336_0 U336_1 U336_2 U336_3 U336_4 U336_5 U336_6 U336_7 U336_8 U336_9 U336_10 U336_11 g_a1 g_b3 ne_a1_b1 ne_a1_b2 ne_a1_b3 ne_b1_b2 ne_b1_b3 ne_b2_b3 Pq336_0.1 Pq336_0.2.1 (by have := Pq330_0.2.2.2.2.2; have := Pq334_0.2.2.2.2.2; omega)) hZ (own_w hw 121 rfl) (own_w hw 5 rfl) (by decide) (by decide)) (g := (mkF m 156 #[.val (.ref a1), .val (.int p2), .val (.int p3), .val (.int p4), .val (.int z4), .val (.int zA), .val (.int zB), .val (.int r'_336), .val (.int zt)] [(.int r'_336), (.int (0 : Int32)), (.int zB), (.int zA), (.int p2), (.ref a1)])) rfl (by rw [hml]; rfl) (Steps.refl _) (a := a1) q339 q339' (argsL := [(.int p2), (.int zA), (.int zB), (.int (0 : Int32)), (.int r'_336)]) (rest := []) (lenOf pd_7 rfl) rfl (by show 2 * 0 + _ ≤ _; exact Nat.le_of_eq rfl) (hb hby d14_156) (fun _ _ => ⟨rfl, rfl, (by decide : 0 + 0 ≤ _), (by decide : 0 + 0 ≤ _)⟩)
        dsimp only [Pt.U, Pt.locs, Pt.cells, Pt.slots] at X339 l339 y339 z339 st339 hQ339
        subst l339 y339 z339
        obtain ⟨rfl, Nq339, Kq339, U339_0, U339_1, U339_2, U339_3, U339_4, U339_5, U339_6, U339_7, U339_8, U339_9, U339_10, U339_11⟩ := hQ339
        have Q340 : Exa Z T339.heap a1 OB := U336_0.keep Kq339
        have Q341 : Arv Z T339.heap b1 k1 .int (256 : Int32) (own_I ns'_336) (.int (0 : Int32)) := U336_9.keep Kq339 (ninS (Ne.symm ne_a1_b1) (ninS ne_b1_b3 nin0))
        have Q342 : Arv Z T339.heap b2 k2 .int (64 : Int32) (own_I bs'_336) (.int (0 : Int32)) := U336_10.keep Kq339 (ninS (Ne.symm ne_a1_b2) (ninS ne_b2_b3 nin0))
        have Z339 : n0 ≤ T339.heap.size := Nat.le_trans Z336 Kq339.1
        have K339 : Keep h0 T339.heap [a1, b1, b2, b3] := K336.trans Kq339 (allS (Or.inl (List.mem_of_getElem? (i := 0) rfl)) (allS (Or.inl (List.mem_of_getElem? (i := 3) rfl)) all0))
        have N339 := Fr.app N336 Nq339
        refine own_go (B := T339.setTop (mkF m 159 #[.val (.ref a1), .val (.int p2), .val (.int p3), .val (.int p4), .val (.int z4), .val (.int zA), .val (.int zB), .val (.int r'_336), .val (.int zt)] [])) (fun t k => st339.trans k) ?_
        refine own_go (B := T339.setTop (mkF m 161 #[.val (.ref a1), .val (.int p2), .val (.int p3), .val (.int p4), .val (.int z4), .val (.int zA), .val (.int zB), .val (.int r'_336), .val (.int zt)] [(.int r'_336)])) (fun t k => ?_) ?_
        · refine XS.iload X339.here hx rfl (hb hby d14_159) rfl ?_
          exact k
        obtain ⟨fs, hr, hrun, hended, hW, hsame⟩ := X339.leave (v := some (.int r'_336)) (fun h => by rw [Bd.returns] at h; cases h)
        refine ⟨_, _, ?_, hrun, hended, _, _, rfl, ?_, ⟨_, rfl⟩, hW, hsame.mono (by decide) (by decide)⟩
        · show Steps p.tables e below (T339.setTop (mkF m 161 #[.val (.ref a1), .val (.int p2), .val (.int p3), .val (.int p4), .val (.int z4), .val (.int zA), .val (.int zB), .val (.int r'_336), .val (.int zt)] [(.int r'_336)])) _
          exact retOut X339 hx Bd.returns rfl (Or.inl ⟨rfl, Or.inl rfl, _, rfl⟩) (hb hby d14_161) hr
        · show Qrm14_0 Z a1 p2 p3 p4 b1 b2 b3 k1 k2 k3 ns bs cs sz cp n h0 n0 _ T339.heap _
          skip
          exact ⟨ns'_336, bs'_336, (own_put cs'_334 (4 * own_e (own_hash p2 zA zB (0 : Int32))) zA zB ((0 : Int32) ||| p2) r'_336), sz'_336, (cp'_334 + (1 : Int64)), n'_336, r'_336, rfl, N339, K339, U339_0, U339_1, U339_2, U339_3, U339_4, U339_5, U339_6, U339_7, U339_8, U339_9, U339_10, U339_11, own_ap_node qI qP qT qA0 qB0 qA1 qB1 Pq330_0 Pq334_0 Pq336_0 (own_en_spec _).2 qc⟩
      · refine own_go (B := T323.setTop (mkF m 159 #[.val (.ref a1), .val (.int p2), .val (.int p3), .val (.int p4), .val (.int z4), .val (.int zA), .val (.int zB), .val (.int (frm18 p2 zA zB cs)), .unset] [])) (fun t k => ?_) ?_
        · refine XS.ifYes X323.here hx rfl (pc0 := 73) (pc' := 159) rfl (hb hby d14_73) rfl ((if0 _ _).trans (flt hc73_324).2.1) (by decide) (by decide) ?_
          exact k
        refine own_go (B := T323.setTop (mkF m 161 #[.val (.ref a1), .val (.int p2), .val (.int p3), .val (.int p4), .val (.int z4), .val (.int zA), .val (.int zB), .val (.int (frm18 p2 zA zB cs)), .unset] [(.int (frm18 p2 zA zB cs))])) (fun t k => ?_) ?_
        · refine XS.iload X323.here hx rfl (hb hby d14_159) rfl ?_
          exact k
        obtain ⟨fs, hr, hrun, hended, hW, hsame⟩ := X323.leave (v := some (.int (frm18 p2 zA zB cs))) (fun h => by rw [Bd.returns] at h; cases h)
        refine ⟨_, _, ?_, hrun, hended, _, _, rfl, ?_, ⟨_, rfl⟩, hW, hsame.mono (by decide) (by decide)⟩
        · show Steps p.tables e below (T323.setTop (mkF m 161 #[.val (.ref a1), .val (.int p2), .val (.int p3), .val (.int p4), .val (.int z4), .val (.int zA), .val (.int zB), .val (.int (frm18 p2 zA zB cs)), .unset] [(.int (frm18 p2 zA zB cs))])) _
          exact retOut X323 hx Bd.returns rfl (Or.inl ⟨rfl, Or.inl rfl, _, rfl⟩) (hb hby d14_161) hr
        · show Qrm14_0 Z a1 p2 p3 p4 b1 b2 b3 k1 k2 k3 ns bs cs sz cp n h0 n0 _ T323.heap _
          rw [e323]
          exact ⟨ns, bs, cs, sz, cp, n, (frm18 p2 zA zB cs), rfl, N323, K0, P0, P1, P2, P3, P4, P5, P6, P7, P8, P9, P10, P11, own_ap_cached qI qs qP hc73_324⟩
    · refine own_go (B := T321.setTop (mkF m 159 #[.val (.ref a1), .val (.int p2), .val (.int p3), .val (.int p4), .val (.int z4), .val (.int zA), .val (.int zB), .val (.int (own_term p2 zA zB)), .unset] [])) (fun t k => ?_) ?_
      · refine XS.ifYes X321.here hx rfl (pc0 := 56) (pc' := 159) rfl (hb hby d14_56) rfl ((if0 _ _).trans (flt hc56_322).2.1) (by decide) (by decide) ?_
        exact k
      refine own_go (B := T321.setTop (mkF m 161 #[.val (.ref a1), .val (.int p2), .val (.int p3), .val (.int p4), .val (.int z4), .val (.int zA), .val (.int zB), .val (.int (own_term p2 zA zB)), .unset] [(.int (own_term p2 zA zB))])) (fun t k => ?_) ?_
      · refine XS.iload X321.here hx rfl (hb hby d14_159) rfl ?_
        exact k
      obtain ⟨fs, hr, hrun, hended, hW, hsame⟩ := X321.leave (v := some (.int (own_term p2 zA zB))) (fun h => by rw [Bd.returns] at h; cases h)
      refine ⟨_, _, ?_, hrun, hended, _, _, rfl, ?_, ⟨_, rfl⟩, hW, hsame.mono (by decide) (by decide)⟩
      · show Steps p.tables e below (T321.setTop (mkF m 161 #[.val (.ref a1), .val (.int p2), .val (.int p3), .val (.int p4), .val (.int z4), .val (.int zA), .val (.int zB), .val (.int (own_term p2 zA zB)), .unset] [(.int (own_term p2 zA zB))])) _
        exact retOut X321 hx Bd.returns rfl (Or.inl ⟨rfl, Or.inl rfl, _, rfl⟩) (hb hby d14_161) hr
      · show Qrm14_0 Z a1 p2 p3 p4 b1 b2 b3 k1 k2 k3 ns bs cs sz cp n h0 n0 _ T321.heap _
        rw [e321]
        exact ⟨ns, bs, cs, sz, cp, n, (own_term p2 zA zB), rfl, N321, K0, P0, P1, P2, P3, P4, P5, P6, P7, P8, P9, P10, P11, own_ap_term qI qs qo qP hc56_322⟩
  refine own_go (B := s₁.setTop (mkF m 2 #[.val (.ref a1), .val (.int p2), .val (.int p3), .val (.int p4), .unset, .unset, .unset, .unset, .unset] [(.int (5 : Int32)), (.int p2)])) (fun t k => ?_) ?_
  · refine XS.iloadN X0.here hx rfl (hb hby d14_0) rfl ?_
    refine XS.iconst X0.here hx rfl (hb hby d14_1) ?_
    exact k
  by_cases hc2_343 : p2 = (5 : Int32)
  · refine own_go (B := s₁.setTop (mkF m 5 #[.val (.ref a1), .val (.int p2), .val (.int p3), .val (.int p4), .unset, .unset, .unset, .unset, .unset] [])) (fun t k => ?_) ?_
    · refine XS.icmpNo X0.here hx rfl (hb hby d14_2) rfl (teq hc2_343).2 ?_
      exact k
    refine own_go (B := s₁.setTop (mkF m 44 #[.val (.ref a1), .val (.int p2), .val (.int p3), .val (.int p4), .val (.int (1 : Int32)), .val (.int p3), .val (.int p4), .unset, .unset] [])) (fun t k => ?_) ?_
    · refine XS.iconst X0.here hx rfl (hb hby d14_5) ?_
      refine XS.goto X0.here hx rfl (pc0 := 6) (pc' := 10) rfl (hb hby d14_6) (by decide) (by decide) ?_
      refine XS.istore X0.here hx rfl (hb hby d14_10) rfl (l' := #[.val (.ref a1), .val (.int p2), .val (.int p3), .val (.int p4), .val (.int (1 : Int32)), .unset, .unset, .unset, .unset]) rfl ?_
      refine XS.iload X0.here hx rfl (hb hby d14_12) rfl ?_
      refine XS.ifNo X0.here hx rfl (hb hby d14_14) rfl ((if0 _ _).trans (feq (by decide : ¬ ((1 : Int32) = (0 : Int32)))).1) ?_
      refine XS.iloadN X0.here hx rfl (hb hby d14_17) rfl ?_
      refine XS.goto X0.here hx rfl (pc0 := 18) (pc' := 26) rfl (hb hby d14_18) (by decide) (by decide) ?_
      refine XS.istore X0.here hx rfl (hb hby d14_26) rfl (l' := #[.val (.ref a1), .val (.int p2), .val (.int p3), .val (.int p4), .val (.int (1 : Int32)), .val (.int p3), .unset, .unset, .unset]) rfl ?_
      refine XS.iload X0.here hx rfl (hb hby d14_28) rfl ?_
      refine XS.ifNo X0.here hx rfl (hb hby d14_30) rfl ((if0 _ _).trans (feq (by decide : ¬ ((1 : Int32) = (0 : Int32)))).1) ?_
      refine XS.iloadN X0.here hx rfl (hb hby d14_33) rfl ?_
      refine XS.goto X0.here hx rfl (pc0 := 34) (pc' := 42) rfl (hb hby d14_34) (by decide) (by decide) ?_
      refine XS.istore X0.here hx rfl (hb hby d14_42) rfl (l' := #[.val (.ref a1), .val (.int p2), .val (.int p3), .val (.int p4), .val (.int (1 : Int32)), .val (.int p3), .val (.int p4), .unset, .unset]) rfl ?_
      exact k
    exact join320 (1 : Int32) p3 p4 s₁ _ (own_pair_5 qa qb qda qdb hc2_343) X0 e0 N0
  · refine own_go (B := s₁.setTop (mkF m 9 #[.val (.ref a1), .val (.int p2), .val (.int p3), .val (.int p4), .unset, .unset, .unset, .unset, .unset] [])) (fun t k => ?_) ?_
    · refine XS.icmpYes X0.here hx rfl (pc0 := 2) (pc' := 9) rfl (hb hby d14_2) rfl (feq hc2_343).2 (by decide) (by decide) ?_
      exact k
    refine own_go (B := s₁.setTop (mkF m 23 #[.val (.ref a1), .val (.int p2), .val (.int p3), .val (.int p4), .val (.int (0 : Int32)), .unset, .unset, .unset, .unset] [(.int p4), (.int p3)])) (fun t k => ?_) ?_
    · refine XS.iconst X0.here hx rfl (hb hby d14_9) ?_
      refine XS.istore X0.here hx rfl (hb hby d14_10) rfl (l' := #[.val (.ref a1), .val (.int p2), .val (.int p3), .val (.int p4), .val (.int (0 : Int32)), .unset, .unset, .unset, .unset]) rfl ?_
      refine XS.iload X0.here hx rfl (hb hby d14_12) rfl ?_
      refine XS.ifYes X0.here hx rfl (pc0 := 14) (pc' := 21) rfl (hb hby d14_14) rfl ((if0 _ _).trans (teq (rfl : (0 : Int32) = (0 : Int32))).1) (by decide) (by decide) ?_
      refine XS.iloadN X0.here hx rfl (hb hby d14_21) rfl ?_
      refine XS.iloadN X0.here hx rfl (hb hby d14_22) rfl ?_
      exact k
    obtain ⟨_, _, ⟨T347, L347, k347, n347⟩, -, X347, ⟨Lc347, hQ347, l347, y347, z347⟩, st347⟩ := Jvm.LawKit.callS X0 hx (y := (⟨"java/lang/Math", "min", "(II)I"⟩ : MethodName)) hown (mvT hZ (own_w hw 16 rfl)) (mvT hZ (own_w hw 17 rfl)) (mvT hZ (own_w hw 18 rfl)) (mvT hZ (own_w hw 19 rfl)) (by decide) (backOf (W := 0) (rm3 l Z a0 hw [] p3 p4 h0 n0 Z0 ) hZ (own_w hw 19 rfl) (own_w hw 18 rfl) (by decide) (by decide)) (g := (mkF m 23 #[.val (.ref a1), .val (.int p2), .val (.int p3), .val (.int p4), .val (.int (0 : Int32)), .unset, .unset, .unset, .unset] [(.int p4), (.int p3)])) rfl (by rw [hml]; rfl) (argsL := [(.int p3), (.int p4)]) (rest := []) (lenOf pd_5 rfl) rfl (by show 2 * 0 + _ ≤ _; exact Nat.le_of_eq rfl) (hb hby d14_23) (fun _ _ => ⟨rfl, e0, (by decide : 0 + 0 ≤ _), (by decide : 0 + 0 ≤ _)⟩)
    dsimp only [Pt.U, Pt.locs, Pt.cells, Pt.slots] at X347 l347 y347 z347 st347 hQ347
    subst l347 y347 z347
    obtain ⟨rfl, Nq347, e347⟩ := hQ347
    have N347 := Fr.app N0 Nq347
    refine own_go (B := T347.setTop (mkF m 26 #[.val (.ref a1), .val (.int p2), .val (.int p3), .val (.int p4), .val (.int (0 : Int32)), .unset, .unset, .unset, .unset] [(.int (frm3 p3 p4))])) st347 ?_
    refine own_go (B := T347.setTop (mkF m 39 #[.val (.ref a1), .val (.int p2), .val (.int p3), .val (.int p4), .val (.int (0 : Int32)), .val (.int (frm3 p3 p4)), .unset, .unset, .unset] [(.int p4), (.int p3)])) (fun t k => ?_) ?_
    · refine XS.istore X347.here hx rfl (hb hby d14_26) rfl (l' := #[.val (.ref a1), .val (.int p2), .val (.int p3), .val (.int p4), .val (.int (0 : Int32)), .val (.int (frm3 p3 p4)), .unset, .unset, .unset]) rfl ?_
      refine XS.iload X347.here hx rfl (hb hby d14_28) rfl ?_
      refine XS.ifYes X347.here hx rfl (pc0 := 30) (pc' := 37) rfl (hb hby d14_30) rfl ((if0 _ _).trans (teq (rfl : (0 : Int32) = (0 : Int32))).1) (by decide) (by decide) ?_
      refine XS.iloadN X347.here hx rfl (hb hby d14_37) rfl ?_
      refine XS.iloadN X347.here hx rfl (hb hby d14_38) rfl ?_
      exact k
    obtain ⟨_, _, ⟨T349, L349, k349, n349⟩, -, X349, ⟨Lc349, hQ349, l349, y349, z349⟩, st349⟩ := Jvm.LawKit.callS X347 hx (y := (⟨"java/lang/Math", "max", "(II)I"⟩ : MethodName)) hown (mvT hZ (own_w hw 83 rfl)) (mvT hZ (own_w hw 84 rfl)) (mvT hZ (own_w hw 18 rfl)) (mvT hZ (own_w hw 85 rfl)) (by decide) (backOf (W := 0) (rm15 l Z a0 hw [] p3 p4 h0 n0 Z0 ) hZ (own_w hw 85 rfl) (own_w hw 18 rfl) (by decide) (by decide)) (g := (mkF m 39 #[.val (.ref a1), .val (.int p2), .val (.int p3), .val (.int p4), .val (.int (0 : Int32)), .val (.int (frm3 p3 p4)), .unset, .unset, .unset] [(.int p4), (.int p3)])) rfl (by rw [hml]; rfl) (argsL := [(.int p3), (.int p4)]) (rest := []) (lenOf pd_5 rfl) rfl (by show 2 * 0 + _ ≤ _; exact Nat.le_of_eq rfl) (hb hby d14_39) (fun _ _ => ⟨rfl, e347, (by decide : 0 + 0 ≤ _), (by decide : 0 + 0 ≤ _)⟩)
    dsimp only [Pt.U, Pt.locs, Pt.cells, Pt.slots] at X349 l349 y349 z349 st349 hQ349
    subst l349 y349 z349
    obtain ⟨rfl, Nq349, e349⟩ := hQ349
    have N349 := Fr.app N347 Nq349
    refine own_go (B := T349.setTop (mkF m 42 #[.val (.ref a1), .val (.int p2), .val (.int p3), .val (.int p4), .val (.int (0 : Int32)), .val (.int (frm3 p3 p4)), .unset, .unset, .unset] [(.int (frm15 p3 p4))])) st349 ?_
    refine own_go (B := T349.setTop (mkF m 44 #[.val (.ref a1), .val (.int p2), .val (.int p3), .val (.int p4), .val (.int (0 : Int32)), .val (.int (frm3 p3 p4)), .val (.int (frm15 p3 p4)), .unset, .unset] [])) (fun t k => ?_) ?_
    · refine XS.istore X349.here hx rfl (hb hby d14_42) rfl (l' := #[.val (.ref a1), .val (.int p2), .val (.int p3), .val (.int p4), .val (.int (0 : Int32)), .val (.int (frm3 p3 p4)), .val (.int (frm15 p3 p4)), .unset, .unset]) rfl ?_
      exact k
    exact join320 (0 : Int32) (frm3 p3 p4) (frm15 p3 p4) T349 _ (own_pair_mm qo qa qb qda qdb hc2_343) X349 e349 N349
def own_cop (k : Int32) (x y : Bool) : Bool := if k = 0 then x && y else if k = 1 then x || y else if k = 2 then x && !y else x == y
def own_CP (w : Nat) (ns : List Int32) (n : Nat) (cp : Int64) (f : Bool → Bool → Bool) (a b : Int32) (ns' bs' cs' : List Int32) (sz' : Int32) (cp' : Int64) (n' : Nat) (r : Int32) : Prop :=
  own_Inv ns' bs' cs' n' ∧ sz'.toInt = (n' : Int) ∧ own_agree ns ns' n ∧ n ≤ n' ∧ n' ≤ n + w ∧ (cp.toInt ≤ cp'.toInt ∧ cp'.toInt ≤ cp.toInt + w) ∧ (0 ≤ r.toInt ∧ r.toInt < n') ∧
  ∀ q, own_val ns' q r.toInt.toNat = f (own_val ns q a.toInt.toNat) (own_val ns q b.toInt.toNat)
theorem own_cp_ap {ns : List Int32} {n : Nat} {cp : Int64} {op a b : Int32} {ns' bs' cs' : List Int32} {sz' : Int32} {cp' : Int64} {n' : Nat} {r : Int32} {f : Bool → Bool → Bool} (P : own_AP 7 ns n cp op a b ns' bs' cs' sz' cp' n' r) (h : ∀ x y, own_op op x y = f x y) : own_CP 14 ns n cp f a b ns' bs' cs' sz' cp' n' r := by
  obtain ⟨a1, a2, a3, a4, a5, a6, a7, -, a9⟩ := P
  exact ⟨a1, a2, a3, a4, by omega, by omega, a7, fun q => (a9 q).trans (h _ _)⟩
theorem own_cop0 {k : Int32} (h : k = (0 : Int32)) : ∀ x y, own_op (0 : Int32) x y = own_cop k x y := fun x y => by rw [h]; rfl
theorem own_cop1 {k : Int32} (h0 : ¬ k = (0 : Int32)) (h : k = (1 : Int32)) : ∀ x y, own_op (1 : Int32) x y = own_cop k x y := fun x y => by rw [h]; rfl
theorem own_cop2 {k : Int32} (h0 : ¬ k = (0 : Int32)) (h1 : ¬ k = (1 : Int32)) (h : k = (2 : Int32)) : ∀ x y, own_op (5 : Int32) x y = own_cop k x y := fun x y => by rw [h]; rfl
theorem own_cop3 {k : Int32} (h0 : ¬ k = (0 : Int32)) (h1 : ¬ k = (1 : Int32)) (h : ¬ k = (2 : Int32)) : ∀ x y, (x == y) = own_cop k x y := fun x y => by unfold own_cop; rw [if_neg h0, if_neg h1, if_neg h]
theorem own_cp_f {w n n' : Nat} {ns ns' bs' cs' : List Int32} {cp cp' : Int64} {a b sz' r : Int32} {f g : Bool → Bool → Bool} (P : own_CP w ns n cp f a b ns' bs' cs' sz' cp' n' r) (h : ∀ x y, f x y = g x y) : own_CP w ns n cp g a b ns' bs' cs' sz' cp' n' r := by
  obtain ⟨a1, a2, a3, a4, a5, a6, a7, a9⟩ := P
  exact ⟨a1, a2, a3, a4, a5, a6, a7, fun q => (a9 q).trans (h _ _)⟩
theorem own_cp_equiv {ns : List Int32} {n : Nat} {cp : Int64} {a b : Int32} {ns1 bs1 cs1 ns' bs' cs' : List Int32} {sz1 sz' : Int32} {cp1 cp' : Int64} {n1 n' : Nat} {r1 r : Int32} (W : own_WF ns n) (ha : 0 ≤ a.toInt ∧ a.toInt < n) (hb : 0 ≤ b.toInt ∧ b.toInt < n)
    (P1 : own_AP 7 ns n cp (2 : Int32) a b ns1 bs1 cs1 sz1 cp1 n1 r1) (P2 : own_AP 7 ns1 n1 cp1 (2 : Int32) r1 (1 : Int32) ns' bs' cs' sz' cp' n' r) : own_CP 14 ns n cp (fun x y => x == y) a b ns' bs' cs' sz' cp' n' r := by
  obtain ⟨a1, a2, a3, a4, a5, a6, a7, -, a9⟩ := P1
  obtain ⟨b1, b2, b3, b4, b5, b6, b7, -, b9⟩ := P2
  refine ⟨b1, b2, own_agree_trans a3 b3 a4, by omega, by omega, ⟨by omega, by omega⟩, b7, fun q => ?_⟩
  rw [b9 q, a9 q]
  show (own_op 2 _ _ != true) = _
  show ((own_val ns q a.toInt.toNat != own_val ns q b.toInt.toNat) != true) = _
  cases own_val ns q a.toInt.toNat <;> cases own_val ns q b.toInt.toNat <;> rfl
def Qrm17 (Z : State) (a1 : Addr) (p2 : Int32) (p3 : Int32) (b1 : Addr) (b2 : Addr) (b3 : Addr) (k1 : ClassId) (k2 : ClassId) (k3 : ClassId) (ns : List Int32) (bs : List Int32) (cs : List Int32) (sz : Int32) (cp : Int64) (n : Nat) (h0 : Heap) (n0 : Nat) (v : Option Value) (h : Heap) (L : List Loc) : Prop := ∃ ns' : List Int32, ∃ bs' : List Int32, ∃ cs' : List Int32, ∃ sz' : Int32, ∃ cp' : Int64, ∃ n' : Nat, ∃ r' : Int32, v = some (.int r') ∧ Fr n0 L ∧ Keep h0 h [a1, b1, b2, b3] ∧ Exa Z h a1 OB ∧ Fld Z h a1 OB "variableCount" "I" (.int (3 : Int32)) ∧ Fld Z h a1 OB "maxComputations" "J" (.long (9223372036854775807 : Int64)) ∧ Fld Z h a1 OB "nodes" "[I" (.ref b1) ∧ Fld Z h a1 OB "buckets" "[I" (.ref b2) ∧ Fld Z h a1 OB "cacheBits" "I" (.int (10 : Int32)) ∧ Fld Z h a1 OB "cache" "[I" (.ref b3) ∧ Fld Z h a1 OB "size" "I" (.int sz') ∧ Fld Z h a1 OB "computations" "J" (.long cp') ∧ Arv Z h b1 k1 .int (256 : Int32) (own_I ns') (.int (0 : Int32)) ∧ Arv Z h b2 k2 .int (64 : Int32) (own_I bs') (.int (0 : Int32)) ∧ Arv Z h b3 k3 .int (4096 : Int32) (own_I cs') (.int (0 : Int32)) ∧ (own_AP 7 ns n cp (0 : Int32) p2 p3 ns' bs' cs' sz' cp' n' r')
theorem efrm17 (m : MethodId) (x0 : Addr) (x1 : Int32) (x2 : Int32) : entryFrame m #[(.ref x0), (.int x1), (.int x2)] 3 = mkF m 0 #[.val (.ref x0), .val (.int x1), .val (.int x2)] [] := by first | (simp [entryFrame, mkF, argsToLocals, Value.category]; done) | rfl
set_option maxRecDepth 65536 in
set_option maxHeartbeats 40000000 in
theorem rm17 (l : Launch) (Z : State) (a0 : Array Value) (hw : ∀ d ∈ tables_1, d.before a0 Z = true) (ws : List Jvm.Cond) (a1 : Addr) (p2 : Int32) (p3 : Int32) (b1 : Addr) (b2 : Addr) (b3 : Addr) (k1 : ClassId) (k2 : ClassId) (k3 : ClassId) (ns : List Int32) (bs : List Int32) (cs : List Int32) (sz : Int32) (cp : Int64) (n : Nat) (h0 : Heap) (n0 : Nat) (Z0 : n0 ≤ h0.size) (P0 : Exa Z h0 a1 OB) (P1 : Fld Z h0 a1 OB "variableCount" "I" (.int (3 : Int32))) (P2 : Fld Z h0 a1 OB "maxComputations" "J" (.long (9223372036854775807 : Int64))) (P3 : Fld Z h0 a1 OB "nodes" "[I" (.ref b1)) (P4 : Fld Z h0 a1 OB "buckets" "[I" (.ref b2)) (P5 : Fld Z h0 a1 OB "cacheBits" "I" (.int (10 : Int32))) (P6 : Fld Z h0 a1 OB "cache" "[I" (.ref b3)) (P7 : Fld Z h0 a1 OB "size" "I" (.int sz)) (P8 : Fld Z h0 a1 OB "computations" "J" (.long cp)) (P9 : Arv Z h0 b1 k1 .int (256 : Int32) (own_I ns) (.int (0 : Int32))) (P10 : Arv Z h0 b2 k2 .int (64 : Int32) (own_I bs) (.int (0 : Int32))) (P11 : Arv Z h0 b3 k3 .int (4096 : Int32) (own_I cs) (.int (0 : Int32))) (g_a1 : n0 ≤ a1) (g_b1 : n0 ≤ b1) (g_b2 : n0 ≤ b2) (g_b3 : n0 ≤ b3) (ne_a1_b1 : a1 ≠ b1) (ne_a1_b2 : a1 ≠ b2) (ne_a1_b3 : a1 ≠ b3) (ne_b1_b2 : b1 ≠ b2) (ne_b1_b3 : b1 ≠ b3) (ne_b2_b3 : b2 ≠ b3) (qI : own_Inv ns bs cs n) (qs : sz.toInt = (n : Int)) (qw : n + 7 ≤ 64) (qc : 0 ≤ cp.toInt ∧ cp.toInt + 7 ≤ 1000) (qa : 0 ≤ p2.toInt ∧ p2.toInt < n) (qb : 0 ≤ p3.toInt ∧ p3.toInt < n) :
    MetFree l (⟨OB, "and", "(II)I"⟩ : MethodName) (head1 (Jvm.Cond.code (⟨OB, "and", "(II)I"⟩ : MethodName) prog_103_method_5_code 3 (some .int) :: ws) ({ frames := 6, cells := 0, slots := 0, locals := 117 } : Room)) (fun a U => a = #[(.ref a1), (.int p2), (.int p3)] ∧ Z.Warmed39 U.vm ∧ U.heap = h0) (fun _ _ _ _ _ => True) (fun _ U o U' => ∃ v L, o = .returned v ∧ Qrm17 Z a1 p2 p3 b1 b2 b3 k1 k2 k3 ns bs cs sz cp n h0 n0 v U'.heap L ∧ FrameEnd U o U' L ({ frames := 6, cells := 0, slots := 0, locals := 117 } : Room).cells ({ frames := 6, cells := 0, slots := 0, locals := 117 } : Room).slots) := by
  refine MetFree.of_bodySF (plainFor_of_name pn_0) hisR ?_
  intro p e s m args below meth c s₁ Bd hml0 hP hK
  obtain ⟨rfl, hZ, hh⟩ := hP
  have hx := Bd.exec
  have hby := Bd.bytes
  have hml : c.maxLocals = 3 := hml0
  have hown : s.vm.findClass OB = some m.cls := findClass_of_methodNamed Bd.named
  have hnm := (name_of_methodNamed Bd.named Bd.method).1
  have X0 : Stand p l e ({ frames := 6, cells := 0, slots := 0, locals := 117 } : Room) s m #[(.ref a1), (.int p2), (.int p3)] below meth c s₁ [] 0 0 := Stand.of_body Bd
  have e0 : s₁.heap = h0 := by rw [← hh, Bd.state]; rfl
  have N0 := Fr.nil n0
  have K0 : Keep h0 h0 [a1, b1, b2, b3] := Keep.refl h0 _
  refine own_go (B := s₁.setTop (mkF m 0 #[.val (.ref a1), .val (.int p2), .val (.int p3)] [])) (fun t k => castTop (efrm17 m a1 p2 p3) k) ?_
  refine own_go (B := s₁.setTop (mkF m 4 #[.val (.ref a1), .val (.int p2), .val (.int p3)] [(.int p3), (.int p2), (.int (0 : Int32)), (.ref a1)])) (fun t k => ?_) ?_
  · refine XS.aloadN X0.here hx rfl (hb hby d17_0) rfl rfl ?_
    refine XS.iconst X0.here hx rfl (hb hby d17_1) ?_
    refine XS.iloadN X0.here hx rfl (hb hby d17_2) rfl ?_
    refine XS.iloadN X0.here hx rfl (hb hby d17_3) rfl ?_
    exact k
  obtain ⟨cq350, q350, q350'⟩ := P0.cell
  obtain ⟨_, _, ⟨T350, L350, k350, n350⟩, -, X350, ⟨Lc350, hQ350, l350, y350, z350⟩, st350⟩ := X0.privateBack hx (y := (⟨OB, "apply", "(III)I"⟩ : MethodName)) hown (mvT hZ (own_w hw 79 rfl)) (mvT hZ (own_w hw 80 rfl)) (own_selp (mvT hZ (own_w hw 50 rfl)) rfl (Cond.privateMethod_at (mvP hZ (own_w hw 81 rfl) (args := #[]))) (mvT hZ (own_w hw 80 rfl)) (by decide)) (Cond.privateMethod_at (mvP hZ (own_w hw 81 rfl) (args := #[]))) (mvT hZ (own_w hw 82 rfl)) (by decide) (backOf (W := 0) (rm14_0 l Z a0 hw [] a1 (0 : Int32) p2 p3 b1 b2 b3 k1 k2 k3 ns bs cs sz cp n h0 n0 Z0 P0 P1 P2 P3 P4 P5 P6 P7 P8 P9 P10 P11 g_a1 g_b1 g_b2 g_b3 ne_a1_b1 ne_a1_b2 ne_a1_b3 ne_b1_b2 ne_b1_b3 ne_b2_b3 qI qs (by omega) (by omega) (by decide) qa qb (own_vr_le qI.1 (by omega)).1 (own_vr_le qI.1 (by first | omega | (have := qI.1.2.1; show (1 : Int32).toInt.toNat < n; show 1 < n; omega))).1) hZ (own_w hw 82 rfl) (own_w hw 5 rfl) (by decide) (by decide)) (g := (mkF m 4 #[.val (.ref a1), .val (.int p2), .val (.int p3)] [(.int p3), (.int p2), (.int (0 : Int32)), (.ref a1)])) rfl (by rw [hml]; rfl) (Steps.refl _) (a := a1) (by rw [e0]; exact q350) q350' (argsL := [(.int (0 : Int32)), (.int p2), (.int p3)]) (rest := []) (lenOf pd_4 rfl) rfl (by show 2 * 0 + _ ≤ _; exact Nat.le_of_eq rfl) (hb hby d17_4) (fun _ _ => ⟨rfl, e0, (by decide : 0 + 0 ≤ _), (by decide : 0 + 0 ≤ _)⟩)
  dsimp only [Pt.U, Pt.locs, Pt.cells, Pt.slots] at X350 l350 y350 z350 st350 hQ350
  subst l350 y350 z350
  obtain ⟨ns'_350, bs'_350, cs'_350, sz'_350, cp'_350, n'_350, r'_350, rfl, Nq350, Kq350, U350_0, U350_1, U350_2, U350_3, U350_4, U350_5, U350_6, U350_7, U350_8, U350_9, U350_10, U350_11, Pq350_0⟩ := hQ350
  have Q351 : Exa Z T350.heap a1 OB := P0.keep Kq350
  have Z350 : n0 ≤ T350.heap.size := Nat.le_trans Z0 Kq350.1
  have K350 : Keep h0 T350.heap [a1, b1, b2, b3] := K0.trans Kq350 (allS (Or.inl (List.mem_of_getElem? (i := 0) rfl)) (allS (Or.inl (List.mem_of_getElem? (i := 1) rfl)) (allS (Or.inl (List.mem_of_getElem? (i := 2) rfl)) (allS (Or.inl (List.mem_of_getElem? (i := 3) rfl)) all0))))
  have N350 := Fr.app N0 Nq350
  refine own_go (B := T350.setTop (mkF m 7 #[.val (.ref a1), .val (.int p2), .val (.int p3)] [(.int r'_350)])) (fun t k => st350.trans k) ?_
  obtain ⟨fs, hr, hrun, hended, hW, hsame⟩ := X350.leave (v := some (.int r'_350)) (fun h => by rw [Bd.returns] at h; cases h)
  refine ⟨_, _, ?_, hrun, hended, _, _, rfl, ?_, ⟨_, rfl⟩, hW, hsame.mono (by decide) (by decide)⟩
  · show Steps p.tables e below (T350.setTop (mkF m 7 #[.val (.ref a1), .val (.int p2), .val (.int p3)] [(.int r'_350)])) _
    exact retOut X350 hx Bd.returns rfl (Or.inl ⟨rfl, Or.inl rfl, _, rfl⟩) (hb hby d17_7) hr
  · show Qrm17 Z a1 p2 p3 b1 b2 b3 k1 k2 k3 ns bs cs sz cp n h0 n0 _ T350.heap _
    skip
    exact ⟨ns'_350, bs'_350, cs'_350, sz'_350, cp'_350, n'_350, r'_350, rfl, N350, K350, U350_0, U350_1, U350_2, U350_3, U350_4, U350_5, U350_6, U350_7, U350_8, U350_9, U350_10, U350_11, Pq350_0⟩
def Qrm13 (Z : State) (a1 : Addr) (p2 : Int32) (p3 : Int32) (b1 : Addr) (b2 : Addr) (b3 : Addr) (k1 : ClassId) (k2 : ClassId) (k3 : ClassId) (ns : List Int32) (bs : List Int32) (cs : List Int32) (sz : Int32) (cp : Int64) (n : Nat) (h0 : Heap) (n0 : Nat) (v : Option Value) (h : Heap) (L : List Loc) : Prop := ∃ ns' : List Int32, ∃ bs' : List Int32, ∃ cs' : List Int32, ∃ sz' : Int32, ∃ cp' : Int64, ∃ n' : Nat, ∃ r' : Int32, v = some (.int r') ∧ Fr n0 L ∧ Keep h0 h [a1, b1, b2, b3] ∧ Exa Z h a1 OB ∧ Fld Z h a1 OB "variableCount" "I" (.int (3 : Int32)) ∧ Fld Z h a1 OB "maxComputations" "J" (.long (9223372036854775807 : Int64)) ∧ Fld Z h a1 OB "nodes" "[I" (.ref b1) ∧ Fld Z h a1 OB "buckets" "[I" (.ref b2) ∧ Fld Z h a1 OB "cacheBits" "I" (.int (10 : Int32)) ∧ Fld Z h a1 OB "cache" "[I" (.ref b3) ∧ Fld Z h a1 OB "size" "I" (.int sz') ∧ Fld Z h a1 OB "computations" "J" (.long cp') ∧ Arv Z h b1 k1 .int (256 : Int32) (own_I ns') (.int (0 : Int32)) ∧ Arv Z h b2 k2 .int (64 : Int32) (own_I bs') (.int (0 : Int32)) ∧ Arv Z h b3 k3 .int (4096 : Int32) (own_I cs') (.int (0 : Int32)) ∧ (own_AP 7 ns n cp (1 : Int32) p2 p3 ns' bs' cs' sz' cp' n' r')
theorem efrm13 (m : MethodId) (x0 : Addr) (x1 : Int32) (x2 : Int32) : entryFrame m #[(.ref x0), (.int x1), (.int x2)] 3 = mkF m 0 #[.val (.ref x0), .val (.int x1), .val (.int x2)] [] := by first | (simp [entryFrame, mkF, argsToLocals, Value.category]; done) | rfl
set_option maxRecDepth 65536 in
set_option maxHeartbeats 40000000 in
theorem rm13 (l : Launch) (Z : State) (a0 : Array Value) (hw : ∀ d ∈ tables_1, d.before a0 Z = true) (ws : List Jvm.Cond) (a1 : Addr) (p2 : Int32) (p3 : Int32) (b1 : Addr) (b2 : Addr) (b3 : Addr) (k1 : ClassId) (k2 : ClassId) (k3 : ClassId) (ns : List Int32) (bs : List Int32) (cs : List Int32) (sz : Int32) (cp : Int64) (n : Nat) (h0 : Heap) (n0 : Nat) (Z0 : n0 ≤ h0.size) (P0 : Exa Z h0 a1 OB) (P1 : Fld Z h0 a1 OB "variableCount" "I" (.int (3 : Int32))) (P2 : Fld Z h0 a1 OB "maxComputations" "J" (.long (9223372036854775807 : Int64))) (P3 : Fld Z h0 a1 OB "nodes" "[I" (.ref b1)) (P4 : Fld Z h0 a1 OB "buckets" "[I" (.ref b2)) (P5 : Fld Z h0 a1 OB "cacheBits" "I" (.int (10 : Int32))) (P6 : Fld Z h0 a1 OB "cache" "[I" (.ref b3)) (P7 : Fld Z h0 a1 OB "size" "I" (.int sz)) (P8 : Fld Z h0 a1 OB "computations" "J" (.long cp)) (P9 : Arv Z h0 b1 k1 .int (256 : Int32) (own_I ns) (.int (0 : Int32))) (P10 : Arv Z h0 b2 k2 .int (64 : Int32) (own_I bs) (.int (0 : Int32))) (P11 : Arv Z h0 b3 k3 .int (4096 : Int32) (own_I cs) (.int (0 : Int32))) (g_a1 : n0 ≤ a1) (g_b1 : n0 ≤ b1) (g_b2 : n0 ≤ b2) (g_b3 : n0 ≤ b3) (ne_a1_b1 : a1 ≠ b1) (ne_a1_b2 : a1 ≠ b2) (ne_a1_b3 : a1 ≠ b3) (ne_b1_b2 : b1 ≠ b2) (ne_b1_b3 : b1 ≠ b3) (ne_b2_b3 : b2 ≠ b3) (qI : own_Inv ns bs cs n) (qs : sz.toInt = (n : Int)) (qw : n + 7 ≤ 64) (qc : 0 ≤ cp.toInt ∧ cp.toInt + 7 ≤ 1000) (qa : 0 ≤ p2.toInt ∧ p2.toInt < n) (qb : 0 ≤ p3.toInt ∧ p3.toInt < n) :
    MetFree l (⟨OB, "or", "(II)I"⟩ : MethodName) (head1 (Jvm.Cond.code (⟨OB, "or", "(II)I"⟩ : MethodName) prog_103_method_6_code 3 (some .int) :: ws) ({ frames := 6, cells := 0, slots := 0, locals := 117 } : Room)) (fun a U => a = #[(.ref a1), (.int p2), (.int p3)] ∧ Z.Warmed39 U.vm ∧ U.heap = h0) (fun _ _ _ _ _ => True) (fun _ U o U' => ∃ v L, o = .returned v ∧ Qrm13 Z a1 p2 p3 b1 b2 b3 k1 k2 k3 ns bs cs sz cp n h0 n0 v U'.heap L ∧ FrameEnd U o U' L ({ frames := 6, cells := 0, slots := 0, locals := 117 } : Room).cells ({ frames := 6, cells := 0, slots := 0, locals := 117 } : Room).slots) := by
  refine MetFree.of_bodySF (plainFor_of_name pn_0) hisR ?_
  intro p e s m args below meth c s₁ Bd hml0 hP hK
  obtain ⟨rfl, hZ, hh⟩ := hP
  have hx := Bd.exec
  have hby := Bd.bytes
  have hml : c.maxLocals = 3 := hml0
  have hown : s.vm.findClass OB = some m.cls := findClass_of_methodNamed Bd.named
  have hnm := (name_of_methodNamed Bd.named Bd.method).1
  have X0 : Stand p l e ({ frames := 6, cells := 0, slots := 0, locals := 117 } : Room) s m #[(.ref a1), (.int p2), (.int p3)] below meth c s₁ [] 0 0 := Stand.of_body Bd
  have e0 : s₁.heap = h0 := by rw [← hh, Bd.state]; rfl
  have N0 := Fr.nil n0
  have K0 : Keep h0 h0 [a1, b1, b2, b3] := Keep.refl h0 _
  refine own_go (B := s₁.setTop (mkF m 0 #[.val (.ref a1), .val (.int p2), .val (.int p3)] [])) (fun t k => castTop (efrm13 m a1 p2 p3) k) ?_
  refine own_go (B := s₁.setTop (mkF m 4 #[.val (.ref a1), .val (.int p2), .val (.int p3)] [(.int p3), (.int p2), (.int (1 : Int32)), (.ref a1)])) (fun t k => ?_) ?_
  · refine XS.aloadN X0.here hx rfl (hb hby d13_0) rfl rfl ?_
    refine XS.iconst X0.here hx rfl (hb hby d13_1) ?_
    refine XS.iloadN X0.here hx rfl (hb hby d13_2) rfl ?_
    refine XS.iloadN X0.here hx rfl (hb hby d13_3) rfl ?_
    exact k
  obtain ⟨cq352, q352, q352'⟩ := P0.cell
  obtain ⟨_, _, ⟨T352, L352, k352, n352⟩, -, X352, ⟨Lc352, hQ352, l352, y352, z352⟩, st352⟩ := X0.privateBack hx (y := (⟨OB, "apply", "(III)I"⟩ : MethodName)) hown (mvT hZ (own_w hw 79 rfl)) (mvT hZ (own_w hw 80 rfl)) (own_selp (mvT hZ (own_w hw 50 rfl)) rfl (Cond.privateMethod_at (mvP hZ (own_w hw 81 rfl) (args := #[]))) (mvT hZ (own_w hw 80 rfl)) (by decide)) (Cond.privateMethod_at (mvP hZ (own_w hw 81 rfl) (args := #[]))) (mvT hZ (own_w hw 82 rfl)) (by decide) (backOf (W := 0) (rm14_0 l Z a0 hw [] a1 (1 : Int32) p2 p3 b1 b2 b3 k1 k2 k3 ns bs cs sz cp n h0 n0 Z0 P0 P1 P2 P3 P4 P5 P6 P7 P8 P9 P10 P11 g_a1 g_b1 g_b2 g_b3 ne_a1_b1 ne_a1_b2 ne_a1_b3 ne_b1_b2 ne_b1_b3 ne_b2_b3 qI qs (by omega) (by omega) (by decide) qa qb (own_vr_le qI.1 (by omega)).1 (own_vr_le qI.1 (by first | omega | (have := qI.1.2.1; show (1 : Int32).toInt.toNat < n; show 1 < n; omega))).1) hZ (own_w hw 82 rfl) (own_w hw 5 rfl) (by decide) (by decide)) (g := (mkF m 4 #[.val (.ref a1), .val (.int p2), .val (.int p3)] [(.int p3), (.int p2), (.int (1 : Int32)), (.ref a1)])) rfl (by rw [hml]; rfl) (Steps.refl _) (a := a1) (by rw [e0]; exact q352) q352' (argsL := [(.int (1 : Int32)), (.int p2), (.int p3)]) (rest := []) (lenOf pd_4 rfl) rfl (by show 2 * 0 + _ ≤ _; exact Nat.le_of_eq rfl) (hb hby d13_4) (fun _ _ => ⟨rfl, e0, (by decide : 0 + 0 ≤ _), (by decide : 0 + 0 ≤ _)⟩)
  dsimp only [Pt.U, Pt.locs, Pt.cells, Pt.slots] at X352 l352 y352 z352 st352 hQ352
  subst l352 y352 z352
  obtain ⟨ns'_352, bs'_352, cs'_352, sz'_352, cp'_352, n'_352, r'_352, rfl, Nq352, Kq352, U352_0, U352_1, U352_2, U352_3, U352_4, U352_5, U352_6, U352_7, U352_8, U352_9, U352_10, U352_11, Pq352_0⟩ := hQ352
  have Q353 : Exa Z T352.heap a1 OB := P0.keep Kq352
  have Z352 : n0 ≤ T352.heap.size := Nat.le_trans Z0 Kq352.1
  have K352 : Keep h0 T352.heap [a1, b1, b2, b3] := K0.trans Kq352 (allS (Or.inl (List.mem_of_getElem? (i := 0) rfl)) (allS (Or.inl (List.mem_of_getElem? (i := 1) rfl)) (allS (Or.inl (List.mem_of_getElem? (i := 2) rfl)) (allS (Or.inl (List.mem_of_getElem? (i := 3) rfl)) all0))))
  have N352 := Fr.app N0 Nq352
  refine own_go (B := T352.setTop (mkF m 7 #[.val (.ref a1), .val (.int p2), .val (.int p3)] [(.int r'_352)])) (fun t k => st352.trans k) ?_
  obtain ⟨fs, hr, hrun, hended, hW, hsame⟩ := X352.leave (v := some (.int r'_352)) (fun h => by rw [Bd.returns] at h; cases h)
  refine ⟨_, _, ?_, hrun, hended, _, _, rfl, ?_, ⟨_, rfl⟩, hW, hsame.mono (by decide) (by decide)⟩
  · show Steps p.tables e below (T352.setTop (mkF m 7 #[.val (.ref a1), .val (.int p2), .val (.int p3)] [(.int r'_352)])) _
    exact retOut X352 hx Bd.returns rfl (Or.inl ⟨rfl, Or.inl rfl, _, rfl⟩) (hb hby d13_7) hr
  · show Qrm13 Z a1 p2 p3 b1 b2 b3 k1 k2 k3 ns bs cs sz cp n h0 n0 _ T352.heap _
    skip
    exact ⟨ns'_352, bs'_352, cs'_352, sz'_352, cp'_352, n'_352, r'_352, rfl, N352, K352, U352_0, U352_1, U352_2, U352_3, U352_4, U352_5, U352_6, U352_7, U352_8, U352_9, U352_10, U352_11, Pq352_0⟩
def Qrm30 (Z : State) (a1 : Addr) (p2 : Int32) (p3 : Int32) (b1 : Addr) (b2 : Addr) (b3 : Addr) (k1 : ClassId) (k2 : ClassId) (k3 : ClassId) (ns : List Int32) (bs : List Int32) (cs : List Int32) (sz : Int32) (cp : Int64) (n : Nat) (h0 : Heap) (n0 : Nat) (v : Option Value) (h : Heap) (L : List Loc) : Prop := ∃ ns' : List Int32, ∃ bs' : List Int32, ∃ cs' : List Int32, ∃ sz' : Int32, ∃ cp' : Int64, ∃ n' : Nat, ∃ r' : Int32, v = some (.int r') ∧ Fr n0 L ∧ Keep h0 h [a1, b1, b2, b3] ∧ Exa Z h a1 OB ∧ Fld Z h a1 OB "variableCount" "I" (.int (3 : Int32)) ∧ Fld Z h a1 OB "maxComputations" "J" (.long (9223372036854775807 : Int64)) ∧ Fld Z h a1 OB "nodes" "[I" (.ref b1) ∧ Fld Z h a1 OB "buckets" "[I" (.ref b2) ∧ Fld Z h a1 OB "cacheBits" "I" (.int (10 : Int32)) ∧ Fld Z h a1 OB "cache" "[I" (.ref b3) ∧ Fld Z h a1 OB "size" "I" (.int sz') ∧ Fld Z h a1 OB "computations" "J" (.long cp') ∧ Arv Z h b1 k1 .int (256 : Int32) (own_I ns') (.int (0 : Int32)) ∧ Arv Z h b2 k2 .int (64 : Int32) (own_I bs') (.int (0 : Int32)) ∧ Arv Z h b3 k3 .int (4096 : Int32) (own_I cs') (.int (0 : Int32)) ∧ (own_AP 7 ns n cp (5 : Int32) p2 p3 ns' bs' cs' sz' cp' n' r')
theorem efrm30 (m : MethodId) (x0 : Addr) (x1 : Int32) (x2 : Int32) : entryFrame m #[(.ref x0), (.int x1), (.int x2)] 3 = mkF m 0 #[.val (.ref x0), .val (.int x1), .val (.int x2)] [] := by first | (simp [entryFrame, mkF, argsToLocals, Value.category]; done) | rfl
set_option maxRecDepth 65536 in
set_option maxHeartbeats 40000000 in
theorem rm30 (l : Launch) (Z : State) (a0 : Array Value) (hw : ∀ d ∈ tables_1, d.before a0 Z = true) (ws : List Jvm.Cond) (a1 : Addr) (p2 : Int32) (p3 : Int32) (b1 : Addr) (b2 : Addr) (b3 : Addr) (k1 : ClassId) (k2 : ClassId) (k3 : ClassId) (ns : List Int32) (bs : List Int32) (cs : List Int32) (sz : Int32) (cp : Int64) (n : Nat) (h0 : Heap) (n0 : Nat) (Z0 : n0 ≤ h0.size) (P0 : Exa Z h0 a1 OB) (P1 : Fld Z h0 a1 OB "variableCount" "I" (.int (3 : Int32))) (P2 : Fld Z h0 a1 OB "maxComputations" "J" (.long (9223372036854775807 : Int64))) (P3 : Fld Z h0 a1 OB "nodes" "[I" (.ref b1)) (P4 : Fld Z h0 a1 OB "buckets" "[I" (.ref b2)) (P5 : Fld Z h0 a1 OB "cacheBits" "I" (.int (10 : Int32))) (P6 : Fld Z h0 a1 OB "cache" "[I" (.ref b3)) (P7 : Fld Z h0 a1 OB "size" "I" (.int sz)) (P8 : Fld Z h0 a1 OB "computations" "J" (.long cp)) (P9 : Arv Z h0 b1 k1 .int (256 : Int32) (own_I ns) (.int (0 : Int32))) (P10 : Arv Z h0 b2 k2 .int (64 : Int32) (own_I bs) (.int (0 : Int32))) (P11 : Arv Z h0 b3 k3 .int (4096 : Int32) (own_I cs) (.int (0 : Int32))) (g_a1 : n0 ≤ a1) (g_b1 : n0 ≤ b1) (g_b2 : n0 ≤ b2) (g_b3 : n0 ≤ b3) (ne_a1_b1 : a1 ≠ b1) (ne_a1_b2 : a1 ≠ b2) (ne_a1_b3 : a1 ≠ b3) (ne_b1_b2 : b1 ≠ b2) (ne_b1_b3 : b1 ≠ b3) (ne_b2_b3 : b2 ≠ b3) (qI : own_Inv ns bs cs n) (qs : sz.toInt = (n : Int)) (qw : n + 7 ≤ 64) (qc : 0 ≤ cp.toInt ∧ cp.toInt + 7 ≤ 1000) (qa : 0 ≤ p2.toInt ∧ p2.toInt < n) (qb : 0 ≤ p3.toInt ∧ p3.toInt < n) :
    MetFree l (⟨OB, "andNot", "(II)I"⟩ : MethodName) (head1 (Jvm.Cond.code (⟨OB, "andNot", "(II)I"⟩ : MethodName) prog_103_method_7_code 3 (some .int) :: ws) ({ frames := 6, cells := 0, slots := 0, locals := 117 } : Room)) (fun a U => a = #[(.ref a1), (.int p2), (.int p3)] ∧ Z.Warmed39 U.vm ∧ U.heap = h0) (fun _ _ _ _ _ => True) (fun _ U o U' => ∃ v L, o = .returned v ∧ Qrm30 Z a1 p2 p3 b1 b2 b3 k1 k2 k3 ns bs cs sz cp n h0 n0 v U'.heap L ∧ FrameEnd U o U' L ({ frames := 6, cells := 0, slots := 0, locals := 117 } : Room).cells ({ frames := 6, cells := 0, slots := 0, locals := 117 } : Room).slots) := by
  refine MetFree.of_bodySF (plainFor_of_name pn_0) hisR ?_
  intro p e s m args below meth c s₁ Bd hml0 hP hK
  obtain ⟨rfl, hZ, hh⟩ := hP
  have hx := Bd.exec
  have hby := Bd.bytes
  have hml : c.maxLocals = 3 := hml0
  have hown : s.vm.findClass OB = some m.cls := findClass_of_methodNamed Bd.named
  have hnm := (name_of_methodNamed Bd.named Bd.method).1
  have X0 : Stand p l e ({ frames := 6, cells := 0, slots := 0, locals := 117 } : Room) s m #[(.ref a1), (.int p2), (.int p3)] below meth c s₁ [] 0 0 := Stand.of_body Bd
  have e0 : s₁.heap = h0 := by rw [← hh, Bd.state]; rfl
  have N0 := Fr.nil n0
  have K0 : Keep h0 h0 [a1, b1, b2, b3] := Keep.refl h0 _
  refine own_go (B := s₁.setTop (mkF m 0 #[.val (.ref a1), .val (.int p2), .val (.int p3)] [])) (fun t k => castTop (efrm30 m a1 p2 p3) k) ?_
  refine own_go (B := s₁.setTop (mkF m 4 #[.val (.ref a1), .val (.int p2), .val (.int p3)] [(.int p3), (.int p2), (.int (5 : Int32)), (.ref a1)])) (fun t k => ?_) ?_
  · refine XS.aloadN X0.here hx rfl (hb hby d30_0) rfl rfl ?_
    refine XS.iconst X0.here hx rfl (hb hby d30_1) ?_
    refine XS.iloadN X0.here hx rfl (hb hby d30_2) rfl ?_
    refine XS.iloadN X0.here hx rfl (hb hby d30_3) rfl ?_
    exact k
  obtain ⟨cq354, q354, q354'⟩ := P0.cell
  obtain ⟨_, _, ⟨T354, L354, k354, n354⟩, -, X354, ⟨Lc354, hQ354, l354, y354, z354⟩, st354⟩ := X0.privateBack hx (y := (⟨OB, "apply", "(III)I"⟩ : MethodName)) hown (mvT hZ (own_w hw 79 rfl)) (mvT hZ (own_w hw 80 rfl)) (own_selp (mvT hZ (own_w hw 50 rfl)) rfl (Cond.privateMethod_at (mvP hZ (own_w hw 81 rfl) (args := #[]))) (mvT hZ (own_w hw 80 rfl)) (by decide)) (Cond.privateMethod_at (mvP hZ (own_w hw 81 rfl) (args := #[]))) (mvT hZ (own_w hw 82 rfl)) (by decide) (backOf (W := 0) (rm14_0 l Z a0 hw [] a1 (5 : Int32) p2 p3 b1 b2 b3 k1 k2 k3 ns bs cs sz cp n h0 n0 Z0 P0 P1 P2 P3 P4 P5 P6 P7 P8 P9 P10 P11 g_a1 g_b1 g_b2 g_b3 ne_a1_b1 ne_a1_b2 ne_a1_b3 ne_b1_b2 ne_b1_b3 ne_b2_b3 qI qs (by omega) (by omega) (by decide) qa qb (own_vr_le qI.1 (by omega)).1 (own_vr_le qI.1 (by first | omega | (have := qI.1.2.1; show (1 : Int32).toInt.toNat < n; show 1 < n; omega))).1) hZ (own_w hw 82 rfl) (own_w hw 5 rfl) (by decide) (by decide)) (g := (mkF m 4 #[.val (.ref a1), .val (.int p2), .val (.int p3)] [(.int p3), (.int p2), (.int (5 : Int32)), (.ref a1)])) rfl (by rw [hml]; rfl) (Steps.refl _) (a := a1) (by rw [e0]; exact q354) q354' (argsL := [(.int (5 : Int32)), (.int p2), (.int p3)]) (rest := []) (lenOf pd_4 rfl) rfl (by show 2 * 0 + _ ≤ _; exact Nat.le_of_eq rfl) (hb hby d30_4) (fun _ _ => ⟨rfl, e0, (by decide : 0 + 0 ≤ _), (by decide : 0 + 0 ≤ _)⟩)
  dsimp only [Pt.U, Pt.locs, Pt.cells, Pt.slots] at X354 l354 y354 z354 st354 hQ354
  subst l354 y354 z354
  obtain ⟨ns'_354, bs'_354, cs'_354, sz'_354, cp'_354, n'_354, r'_354, rfl, Nq354, Kq354, U354_0, U354_1, U354_2, U354_3, U354_4, U354_5, U354_6, U354_7, U354_8, U354_9, U354_10, U354_11, Pq354_0⟩ := hQ354
  have Q355 : Exa Z T354.heap a1 OB := P0.keep Kq354
  have Z354 : n0 ≤ T354.heap.size := Nat.le_trans Z0 Kq354.1
  have K354 : Keep h0 T354.heap [a1, b1, b2, b3] := K0.trans Kq354 (allS (Or.inl (List.mem_of_getElem? (i := 0) rfl)) (allS (Or.inl (List.mem_of_getElem? (i := 1) rfl)) (allS (Or.inl (List.mem_of_getElem? (i := 2) rfl)) (allS (Or.inl (List.mem_of_getElem? (i := 3) rfl)) all0))))
  have N354 := Fr.app N0 Nq354
  refine own_go (B := T354.setTop (mkF m 7 #[.val (.ref a1), .val (.int p2), .val (.int p3)] [(.int r'_354)])) (fun t k => st354.trans k) ?_
  obtain ⟨fs, hr, hrun, hended, hW, hsame⟩ := X354.leave (v := some (.int r'_354)) (fun h => by rw [Bd.returns] at h; cases h)
  refine ⟨_, _, ?_, hrun, hended, _, _, rfl, ?_, ⟨_, rfl⟩, hW, hsame.mono (by decide) (by decide)⟩
  · show Steps p.tables e below (T354.setTop (mkF m 7 #[.val (.ref a1), .val (.int p2), .val (.int p3)] [(.int r'_354)])) _
    exact retOut X354 hx Bd.returns rfl (Or.inl ⟨rfl, Or.inl rfl, _, rfl⟩) (hb hby d30_7) hr
  · show Qrm30 Z a1 p2 p3 b1 b2 b3 k1 k2 k3 ns bs cs sz cp n h0 n0 _ T354.heap _
    skip
    exact ⟨ns'_354, bs'_354, cs'_354, sz'_354, cp'_354, n'_354, r'_354, rfl, N354, K354, U354_0, U354_1, U354_2, U354_3, U354_4, U354_5, U354_6, U354_7, U354_8, U354_9, U354_10, U354_11, Pq354_0⟩
def Qrm29 (Z : State) (a1 : Addr) (p2 : Int32) (b1 : Addr) (b2 : Addr) (b3 : Addr) (k1 : ClassId) (k2 : ClassId) (k3 : ClassId) (ns : List Int32) (bs : List Int32) (cs : List Int32) (sz : Int32) (cp : Int64) (n : Nat) (h0 : Heap) (n0 : Nat) (v : Option Value) (h : Heap) (L : List Loc) : Prop := ∃ ns' : List Int32, ∃ bs' : List Int32, ∃ cs' : List Int32, ∃ sz' : Int32, ∃ cp' : Int64, ∃ n' : Nat, ∃ r' : Int32, v = some (.int r') ∧ Fr n0 L ∧ Keep h0 h [a1, b1, b2, b3] ∧ Exa Z h a1 OB ∧ Fld Z h a1 OB "variableCount" "I" (.int (3 : Int32)) ∧ Fld Z h a1 OB "maxComputations" "J" (.long (9223372036854775807 : Int64)) ∧ Fld Z h a1 OB "nodes" "[I" (.ref b1) ∧ Fld Z h a1 OB "buckets" "[I" (.ref b2) ∧ Fld Z h a1 OB "cacheBits" "I" (.int (10 : Int32)) ∧ Fld Z h a1 OB "cache" "[I" (.ref b3) ∧ Fld Z h a1 OB "size" "I" (.int sz') ∧ Fld Z h a1 OB "computations" "J" (.long cp') ∧ Arv Z h b1 k1 .int (256 : Int32) (own_I ns') (.int (0 : Int32)) ∧ Arv Z h b2 k2 .int (64 : Int32) (own_I bs') (.int (0 : Int32)) ∧ Arv Z h b3 k3 .int (4096 : Int32) (own_I cs') (.int (0 : Int32)) ∧ (own_AP 7 ns n cp (2 : Int32) p2 (1 : Int32) ns' bs' cs' sz' cp' n' r')
theorem efrm29 (m : MethodId) (x0 : Addr) (x1 : Int32) : entryFrame m #[(.ref x0), (.int x1)] 2 = mkF m 0 #[.val (.ref x0), .val (.int x1)] [] := by first | (simp [entryFrame, mkF, argsToLocals, Value.category]; done) | rfl
set_option maxRecDepth 65536 in
set_option maxHeartbeats 40000000 in
theorem rm29 (l : Launch) (Z : State) (a0 : Array Value) (hw : ∀ d ∈ tables_1, d.before a0 Z = true) (ws : List Jvm.Cond) (a1 : Addr) (p2 : Int32) (b1 : Addr) (b2 : Addr) (b3 : Addr) (k1 : ClassId) (k2 : ClassId) (k3 : ClassId) (ns : List Int32) (bs : List Int32) (cs : List Int32) (sz : Int32) (cp : Int64) (n : Nat) (h0 : Heap) (n0 : Nat) (Z0 : n0 ≤ h0.size) (P0 : Exa Z h0 a1 OB) (P1 : Fld Z h0 a1 OB "variableCount" "I" (.int (3 : Int32))) (P2 : Fld Z h0 a1 OB "maxComputations" "J" (.long (9223372036854775807 : Int64))) (P3 : Fld Z h0 a1 OB "nodes" "[I" (.ref b1)) (P4 : Fld Z h0 a1 OB "buckets" "[I" (.ref b2)) (P5 : Fld Z h0 a1 OB "cacheBits" "I" (.int (10 : Int32))) (P6 : Fld Z h0 a1 OB "cache" "[I" (.ref b3)) (P7 : Fld Z h0 a1 OB "size" "I" (.int sz)) (P8 : Fld Z h0 a1 OB "computations" "J" (.long cp)) (P9 : Arv Z h0 b1 k1 .int (256 : Int32) (own_I ns) (.int (0 : Int32))) (P10 : Arv Z h0 b2 k2 .int (64 : Int32) (own_I bs) (.int (0 : Int32))) (P11 : Arv Z h0 b3 k3 .int (4096 : Int32) (own_I cs) (.int (0 : Int32))) (g_a1 : n0 ≤ a1) (g_b1 : n0 ≤ b1) (g_b2 : n0 ≤ b2) (g_b3 : n0 ≤ b3) (ne_a1_b1 : a1 ≠ b1) (ne_a1_b2 : a1 ≠ b2) (ne_a1_b3 : a1 ≠ b3) (ne_b1_b2 : b1 ≠ b2) (ne_b1_b3 : b1 ≠ b3) (ne_b2_b3 : b2 ≠ b3) (qI : own_Inv ns bs cs n) (qs : sz.toInt = (n : Int)) (qw : n + 7 ≤ 64) (qc : 0 ≤ cp.toInt ∧ cp.toInt + 7 ≤ 1000) (qa : 0 ≤ p2.toInt ∧ p2.toInt < n) :
    MetFree l (⟨OB, "not", "(I)I"⟩ : MethodName) (head1 (Jvm.Cond.code (⟨OB, "not", "(I)I"⟩ : MethodName) prog_103_method_4_code 2 (some .int) :: ws) ({ frames := 6, cells := 0, slots := 0, locals := 117 } : Room)) (fun a U => a = #[(.ref a1), (.int p2)] ∧ Z.Warmed39 U.vm ∧ U.heap = h0) (fun _ _ _ _ _ => True) (fun _ U o U' => ∃ v L, o = .returned v ∧ Qrm29 Z a1 p2 b1 b2 b3 k1 k2 k3 ns bs cs sz cp n h0 n0 v U'.heap L ∧ FrameEnd U o U' L ({ frames := 6, cells := 0, slots := 0, locals := 117 } : Room).cells ({ frames := 6, cells := 0, slots := 0, locals := 117 } : Room).slots) := by
  refine MetFree.of_bodySF (plainFor_of_name pn_0) hisR ?_
  intro p e s m args below meth c s₁ Bd hml0 hP hK
  obtain ⟨rfl, hZ, hh⟩ := hP
  have hx := Bd.exec
  have hby := Bd.bytes
  have hml : c.maxLocals = 2 := hml0
  have hown : s.vm.findClass OB = some m.cls := findClass_of_methodNamed Bd.named
  have hnm := (name_of_methodNamed Bd.named Bd.method).1
  have X0 : Stand p l e ({ frames := 6, cells := 0, slots := 0, locals := 117 } : Room) s m #[(.ref a1), (.int p2)] below meth c s₁ [] 0 0 := Stand.of_body Bd
  have e0 : s₁.heap = h0 := by rw [← hh, Bd.state]; rfl
  have N0 := Fr.nil n0
  have K0 : Keep h0 h0 [a1, b1, b2, b3] := Keep.refl h0 _
  refine own_go (B := s₁.setTop (mkF m 0 #[.val (.ref a1), .val (.int p2)] [])) (fun t k => castTop (efrm29 m a1 p2) k) ?_
  refine own_go (B := s₁.setTop (mkF m 4 #[.val (.ref a1), .val (.int p2)] [(.int (1 : Int32)), (.int p2), (.int (2 : Int32)), (.ref a1)])) (fun t k => ?_) ?_
  · refine XS.aloadN X0.here hx rfl (hb hby d29_0) rfl rfl ?_
    refine XS.iconst X0.here hx rfl (hb hby d29_1) ?_
    refine XS.iloadN X0.here hx rfl (hb hby d29_2) rfl ?_
    refine XS.iconst X0.here hx rfl (hb hby d29_3) ?_
    exact k
  obtain ⟨cq356, q356, q356'⟩ := P0.cell
  obtain ⟨_, _, ⟨T356, L356, k356, n356⟩, -, X356, ⟨Lc356, hQ356, l356, y356, z356⟩, st356⟩ := X0.privateBack hx (y := (⟨OB, "apply", "(III)I"⟩ : MethodName)) hown (mvT hZ (own_w hw 79 rfl)) (mvT hZ (own_w hw 80 rfl)) (own_selp (mvT hZ (own_w hw 50 rfl)) rfl (Cond.privateMethod_at (mvP hZ (own_w hw 81 rfl) (args := #[]))) (mvT hZ (own_w hw 80 rfl)) (by decide)) (Cond.privateMethod_at (mvP hZ (own_w hw 81 rfl) (args := #[]))) (mvT hZ (own_w hw 82 rfl)) (by decide) (backOf (W := 0) (rm14_0 l Z a0 hw [] a1 (2 : Int32) p2 (1 : Int32) b1 b2 b3 k1 k2 k3 ns bs cs sz cp n h0 n0 Z0 P0 P1 P2 P3 P4 P5 P6 P7 P8 P9 P10 P11 g_a1 g_b1 g_b2 g_b3 ne_a1_b1 ne_a1_b2 ne_a1_b3 ne_b1_b2 ne_b1_b3 ne_b2_b3 qI qs (by omega) (by omega) (by decide) qa ⟨by decide, by have := qI.1.2.1; show (1 : Int) < n; omega⟩ (own_vr_le qI.1 (by omega)).1 (own_vr_le qI.1 (by first | omega | (have := qI.1.2.1; show (1 : Int32).toInt.toNat < n; show 1 < n; omega))).1) hZ (own_w hw 82 rfl) (own_w hw 5 rfl) (by decide) (by decide)) (g := (mkF m 4 #[.val (.ref a1), .val (.int p2)] [(.int (1 : Int32)), (.int p2), (.int (2 : Int32)), (.ref a1)])) rfl (by rw [hml]; rfl) (Steps.refl _) (a := a1) (by rw [e0]; exact q356) q356' (argsL := [(.int (2 : Int32)), (.int p2), (.int (1 : Int32))]) (rest := []) (lenOf pd_4 rfl) rfl (by show 2 * 0 + _ ≤ _; exact Nat.le_of_eq rfl) (hb hby d29_4) (fun _ _ => ⟨rfl, e0, (by decide : 0 + 0 ≤ _), (by decide : 0 + 0 ≤ _)⟩)
  dsimp only [Pt.U, Pt.locs, Pt.cells, Pt.slots] at X356 l356 y356 z356 st356 hQ356
  subst l356 y356 z356
  obtain ⟨ns'_356, bs'_356, cs'_356, sz'_356, cp'_356, n'_356, r'_356, rfl, Nq356, Kq356, U356_0, U356_1, U356_2, U356_3, U356_4, U356_5, U356_6, U356_7, U356_8, U356_9, U356_10, U356_11, Pq356_0⟩ := hQ356
  have Q357 : Exa Z T356.heap a1 OB := P0.keep Kq356
  have Z356 : n0 ≤ T356.heap.size := Nat.le_trans Z0 Kq356.1
  have K356 : Keep h0 T356.heap [a1, b1, b2, b3] := K0.trans Kq356 (allS (Or.inl (List.mem_of_getElem? (i := 0) rfl)) (allS (Or.inl (List.mem_of_getElem? (i := 1) rfl)) (allS (Or.inl (List.mem_of_getElem? (i := 2) rfl)) (allS (Or.inl (List.mem_of_getElem? (i := 3) rfl)) all0))))
  have N356 := Fr.app N0 Nq356
  refine own_go (B := T356.setTop (mkF m 7 #[.val (.ref a1), .val (.int p2)] [(.int r'_356)])) (fun t k => st356.trans k) ?_
  obtain ⟨fs, hr, hrun, hended, hW, hsame⟩ := X356.leave (v := some (.int r'_356)) (fun h => by rw [Bd.returns] at h; cases h)
  refine ⟨_, _, ?_, hrun, hended, _, _, rfl, ?_, ⟨_, rfl⟩, hW, hsame.mono (by decide) (by decide)⟩
  · show Steps p.tables e below (T356.setTop (mkF m 7 #[.val (.ref a1), .val (.int p2)] [(.int r'_356)])) _
    exact retOut X356 hx Bd.returns rfl (Or.inl ⟨rfl, Or.inl rfl, _, rfl⟩) (hb hby d29_7) hr
  · show Qrm29 Z a1 p2 b1 b2 b3 k1 k2 k3 ns bs cs sz cp n h0 n0 _ T356.heap _
    skip
    exact ⟨ns'_356, bs'_356, cs'_356, sz'_356, cp'_356, n'_356, r'_356, rfl, N356, K356, U356_0, U356_1, U356_2, U356_3, U356_4, U356_5, U356_6, U356_7, U356_8, U356_9, U356_10, U356_11, Pq356_0⟩
def Qrm28 (Z : State) (a1 : Addr) (p2 : Int32) (p3 : Int32) (b1 : Addr) (b2 : Addr) (b3 : Addr) (k1 : ClassId) (k2 : ClassId) (k3 : ClassId) (ns : List Int32) (bs : List Int32) (cs : List Int32) (sz : Int32) (cp : Int64) (n : Nat) (h0 : Heap) (n0 : Nat) (v : Option Value) (h : Heap) (L : List Loc) : Prop := ∃ ns' : List Int32, ∃ bs' : List Int32, ∃ cs' : List Int32, ∃ sz' : Int32, ∃ cp' : Int64, ∃ n' : Nat, ∃ r' : Int32, v = some (.int r') ∧ Fr n0 L ∧ Keep h0 h [a1, b1, b2, b3] ∧ Exa Z h a1 OB ∧ Fld Z h a1 OB "variableCount" "I" (.int (3 : Int32)) ∧ Fld Z h a1 OB "maxComputations" "J" (.long (9223372036854775807 : Int64)) ∧ Fld Z h a1 OB "nodes" "[I" (.ref b1) ∧ Fld Z h a1 OB "buckets" "[I" (.ref b2) ∧ Fld Z h a1 OB "cacheBits" "I" (.int (10 : Int32)) ∧ Fld Z h a1 OB "cache" "[I" (.ref b3) ∧ Fld Z h a1 OB "size" "I" (.int sz') ∧ Fld Z h a1 OB "computations" "J" (.long cp') ∧ Arv Z h b1 k1 .int (256 : Int32) (own_I ns') (.int (0 : Int32)) ∧ Arv Z h b2 k2 .int (64 : Int32) (own_I bs') (.int (0 : Int32)) ∧ Arv Z h b3 k3 .int (4096 : Int32) (own_I cs') (.int (0 : Int32)) ∧ (own_CP 14 ns n cp (fun x y => x == y) p2 p3 ns' bs' cs' sz' cp' n' r')
theorem efrm28 (m : MethodId) (x0 : Addr) (x1 : Int32) (x2 : Int32) : entryFrame m #[(.ref x0), (.int x1), (.int x2)] 3 = mkF m 0 #[.val (.ref x0), .val (.int x1), .val (.int x2)] [] := by first | (simp [entryFrame, mkF, argsToLocals, Value.category]; done) | rfl
set_option maxRecDepth 65536 in
set_option maxHeartbeats 40000000 in
theorem rm28 (l : Launch) (Z : State) (a0 : Array Value) (hw : ∀ d ∈ tables_1, d.before a0 Z = true) (ws : List Jvm.Cond) (a1 : Addr) (p2 : Int32) (p3 : Int32) (b1 : Addr) (b2 : Addr) (b3 : Addr) (k1 : ClassId) (k2 : ClassId) (k3 : ClassId) (ns : List Int32) (bs : List Int32) (cs : List Int32) (sz : Int32) (cp : Int64) (n : Nat) (h0 : Heap) (n0 : Nat) (Z0 : n0 ≤ h0.size) (P0 : Exa Z h0 a1 OB) (P1 : Fld Z h0 a1 OB "variableCount" "I" (.int (3 : Int32))) (P2 : Fld Z h0 a1 OB "maxComputations" "J" (.long (9223372036854775807 : Int64))) (P3 : Fld Z h0 a1 OB "nodes" "[I" (.ref b1)) (P4 : Fld Z h0 a1 OB "buckets" "[I" (.ref b2)) (P5 : Fld Z h0 a1 OB "cacheBits" "I" (.int (10 : Int32))) (P6 : Fld Z h0 a1 OB "cache" "[I" (.ref b3)) (P7 : Fld Z h0 a1 OB "size" "I" (.int sz)) (P8 : Fld Z h0 a1 OB "computations" "J" (.long cp)) (P9 : Arv Z h0 b1 k1 .int (256 : Int32) (own_I ns) (.int (0 : Int32))) (P10 : Arv Z h0 b2 k2 .int (64 : Int32) (own_I bs) (.int (0 : Int32))) (P11 : Arv Z h0 b3 k3 .int (4096 : Int32) (own_I cs) (.int (0 : Int32))) (g_a1 : n0 ≤ a1) (g_b1 : n0 ≤ b1) (g_b2 : n0 ≤ b2) (g_b3 : n0 ≤ b3) (ne_a1_b1 : a1 ≠ b1) (ne_a1_b2 : a1 ≠ b2) (ne_a1_b3 : a1 ≠ b3) (ne_b1_b2 : b1 ≠ b2) (ne_b1_b3 : b1 ≠ b3) (ne_b2_b3 : b2 ≠ b3) (qI : own_Inv ns bs cs n) (qs : sz.toInt = (n : Int)) (qw : n + 14 ≤ 64) (qc : 0 ≤ cp.toInt ∧ cp.toInt + 14 ≤ 1000) (qa : 0 ≤ p2.toInt ∧ p2.toInt < n) (qb : 0 ≤ p3.toInt ∧ p3.toInt < n) :
    MetFree l (⟨OB, "equivalent", "(II)I"⟩ : MethodName) (head1 (Jvm.Cond.code (⟨OB, "equivalent", "(II)I"⟩ : MethodName) prog_103_method_8_code 3 (some .int) :: ws) ({ frames := 7, cells := 0, slots := 0, locals := 130 } : Room)) (fun a U => a = #[(.ref a1), (.int p2), (.int p3)] ∧ Z.Warmed39 U.vm ∧ U.heap = h0) (fun _ _ _ _ _ => True) (fun _ U o U' => ∃ v L, o = .returned v ∧ Qrm28 Z a1 p2 p3 b1 b2 b3 k1 k2 k3 ns bs cs sz cp n h0 n0 v U'.heap L ∧ FrameEnd U o U' L ({ frames := 7, cells := 0, slots := 0, locals := 130 } : Room).cells ({ frames := 7, cells := 0, slots := 0, locals := 130 } : Room).slots) := by
  refine MetFree.of_bodySF (plainFor_of_name pn_0) hisR ?_
  intro p e s m args below meth c s₁ Bd hml0 hP hK
  obtain ⟨rfl, hZ, hh⟩ := hP
  have hx := Bd.exec
  have hby := Bd.bytes
  have hml : c.maxLocals = 3 := hml0
  have hown : s.vm.findClass OB = some m.cls := findClass_of_methodNamed Bd.named
  have hnm := (name_of_methodNamed Bd.named Bd.method).1
  have X0 : Stand p l e ({ frames := 7, cells := 0, slots := 0, locals := 130 } : Room) s m #[(.ref a1), (.int p2), (.int p3)] below meth c s₁ [] 0 0 := Stand.of_body Bd
  have e0 : s₁.heap = h0 := by rw [← hh, Bd.state]; rfl
  have N0 := Fr.nil n0
  have K0 : Keep h0 h0 [a1, b1, b2, b3] := Keep.refl h0 _
  refine own_go (B := s₁.setTop (mkF m 0 #[.val (.ref a1), .val (.int p2), .val (.int p3)] [])) (fun t k => castTop (efrm28 m a1 p2 p3) k) ?_
  refine own_go (B := s₁.setTop (mkF m 5 #[.val (.ref a1), .val (.int p2), .val (.int p3)] [(.int p3), (.int p2), (.int (2 : Int32)), (.ref a1), (.ref a1)])) (fun t k => ?_) ?_
  · refine XS.aloadN X0.here hx rfl (hb hby d28_0) rfl rfl ?_
    refine XS.aloadN X0.here hx rfl (hb hby d28_1) rfl rfl ?_
    refine XS.iconst X0.here hx rfl (hb hby d28_2) ?_
    refine XS.iloadN X0.here hx rfl (hb hby d28_3) rfl ?_
    refine XS.iloadN X0.here hx rfl (hb hby d28_4) rfl ?_
    exact k
  obtain ⟨cq358, q358, q358'⟩ := P0.cell
  obtain ⟨_, _, ⟨T358, L358, k358, n358⟩, -, X358, ⟨Lc358, hQ358, l358, y358, z358⟩, st358⟩ := X0.privateBack hx (y := (⟨OB, "apply", "(III)I"⟩ : MethodName)) hown (mvT hZ (own_w hw 79 rfl)) (mvT hZ (own_w hw 80 rfl)) (own_selp (mvT hZ (own_w hw 50 rfl)) rfl (Cond.privateMethod_at (mvP hZ (own_w hw 81 rfl) (args := #[]))) (mvT hZ (own_w hw 80 rfl)) (by decide)) (Cond.privateMethod_at (mvP hZ (own_w hw 81 rfl) (args := #[]))) (mvT hZ (own_w hw 82 rfl)) (by decide) (backOf (W := 1) (rm14_0 l Z a0 hw [] a1 (2 : Int32) p2 p3 b1 b2 b3 k1 k2 k3 ns bs cs sz cp n h0 n0 Z0 P0 P1 P2 P3 P4 P5 P6 P7 P8 P9 P10 P11 g_a1 g_b1 g_b2 g_b3 ne_a1_b1 ne_a1_b2 ne_a1_b3 ne_b1_b2 ne_b1_b3 ne_b2_b3 qI qs (by omega) (by omega) (by decide) qa qb (own_vr_le qI.1 (by omega)).1 (own_vr_le qI.1 (by first | omega | (have := qI.1.2.1; show (1 : Int32).toInt.toNat < n; show 1 < n; omega))).1) hZ (own_w hw 82 rfl) (own_w hw 5 rfl) (by decide) (by decide)) (g := (mkF m 5 #[.val (.ref a1), .val (.int p2), .val (.int p3)] [(.int p3), (.int p2), (.int (2 : Int32)), (.ref a1), (.ref a1)])) rfl (by rw [hml]; rfl) (Steps.refl _) (a := a1) (by rw [e0]; exact q358) q358' (argsL := [(.int (2 : Int32)), (.int p2), (.int p3)]) (rest := [(.ref a1)]) (lenOf pd_4 rfl) rfl (by show 2 * 0 + _ ≤ _; exact Nat.le_of_eq rfl) (hb hby d28_5) (fun _ _ => ⟨rfl, e0, (by decide : 0 + 0 ≤ _), (by decide : 0 + 0 ≤ _)⟩)
  dsimp only [Pt.U, Pt.locs, Pt.cells, Pt.slots] at X358 l358 y358 z358 st358 hQ358
  subst l358 y358 z358
  obtain ⟨ns'_358, bs'_358, cs'_358, sz'_358, cp'_358, n'_358, r'_358, rfl, Nq358, Kq358, U358_0, U358_1, U358_2, U358_3, U358_4, U358_5, U358_6, U358_7, U358_8, U358_9, U358_10, U358_11, Pq358_0⟩ := hQ358
  have Q359 : Exa Z T358.heap a1 OB := P0.keep Kq358
  have Z358 : n0 ≤ T358.heap.size := Nat.le_trans Z0 Kq358.1
  have K358 : Keep h0 T358.heap [a1, b1, b2, b3] := K0.trans Kq358 (allS (Or.inl (List.mem_of_getElem? (i := 0) rfl)) (allS (Or.inl (List.mem_of_getElem? (i := 1) rfl)) (allS (Or.inl (List.mem_of_getElem? (i := 2) rfl)) (allS (Or.inl (List.mem_of_getElem? (i := 3) rfl)) all0))))
  have N358 := Fr.app N0 Nq358
  refine own_go (B := T358.setTop (mkF m 8 #[.val (.ref a1), .val (.int p2), .val (.int p3)] [(.int r'_358), (.ref a1)])) (fun t k => st358.trans k) ?_
  obtain ⟨cq360, kq360, q360a, q360b, q360c⟩ := isOf hZ rfl U358_0
  obtain ⟨_, _, ⟨T360, L360, k360, n360⟩, -, X360, ⟨Lc360, hQ360, l360, y360, z360⟩, st360⟩ := X358.virtualBack hx (y := (⟨OB, "not", "(I)I"⟩ : MethodName)) (z := (⟨OB, "not", "(I)I"⟩ : MethodName)) hown (mvT hZ (own_w hw 140 rfl)) (mvT hZ (own_w hw 141 rfl)) (notFace_of_selects (args := #[]) (mvT hZ (own_w hw 143 rfl))) (mvT hZ (own_w hw 143 rfl)) (mvT hZ (own_w hw 142 rfl)) (by decide) (backOf (W := 0) (rm29 l Z a0 hw [] a1 r'_358 b1 b2 b3 k1 k2 k3 ns'_358 bs'_358 cs'_358 sz'_358 cp'_358 n'_358 T358.heap n0 Z358 U358_0 U358_1 U358_2 U358_3 U358_4 U358_5 U358_6 U358_7 U358_8 U358_9 U358_10 U358_11 g_a1 g_b1 g_b2 g_b3 ne_a1_b1 ne_a1_b2 ne_a1_b3 ne_b1_b2 ne_b1_b3 ne_b2_b3 Pq358_0.1 Pq358_0.2.1 (by have := Pq358_0.2.2.2.2.1; omega) (by have := Pq358_0.2.2.2.2.2.1; omega) Pq358_0.2.2.2.2.2.2.1) hZ (own_w hw 144 rfl) (own_w hw 5 rfl) (by decide) (by decide)) q360a q360c (g := (mkF m 8 #[.val (.ref a1), .val (.int p2), .val (.int p3)] [(.int r'_358), (.ref a1)])) rfl (by rw [hml]; rfl) (Steps.refl _) (argsL := [(.int r'_358)]) (rest := []) (lenOf pd_2 rfl) rfl (by show 2 * 0 + _ ≤ _; exact Nat.le_of_eq rfl) (hb hby d28_8) (fun _ _ => ⟨rfl, rfl, (by decide : 0 + 0 ≤ _), (by decide : 0 + 0 ≤ _)⟩)
  dsimp only [Pt.U, Pt.locs, Pt.cells, Pt.slots] at X360 l360 y360 z360 st360 hQ360
  subst l360 y360 z360
  obtain ⟨ns'_360, bs'_360, cs'_360, sz'_360, cp'_360, n'_360, r'_360, rfl, Nq360, Kq360, U360_0, U360_1, U360_2, U360_3, U360_4, U360_5, U360_6, U360_7, U360_8, U360_9, U360_10, U360_11, Pq360_0⟩ := hQ360
  have Q361 : Exa Z T360.heap a1 OB := U358_0.keep Kq360
  have Z360 : n0 ≤ T360.heap.size := Nat.le_trans Z358 Kq360.1
  have K360 : Keep h0 T360.heap [a1, b1, b2, b3] := K358.trans Kq360 (allS (Or.inl (List.mem_of_getElem? (i := 0) rfl)) (allS (Or.inl (List.mem_of_getElem? (i := 1) rfl)) (allS (Or.inl (List.mem_of_getElem? (i := 2) rfl)) (allS (Or.inl (List.mem_of_getElem? (i := 3) rfl)) all0))))
  have N360 := Fr.app N358 Nq360
  refine own_go (B := T360.setTop (mkF m 11 #[.val (.ref a1), .val (.int p2), .val (.int p3)] [(.int r'_360)])) (fun t k => st360.trans k) ?_
  obtain ⟨fs, hr, hrun, hended, hW, hsame⟩ := X360.leave (v := some (.int r'_360)) (fun h => by rw [Bd.returns] at h; cases h)
  refine ⟨_, _, ?_, hrun, hended, _, _, rfl, ?_, ⟨_, rfl⟩, hW, hsame.mono (by decide) (by decide)⟩
  · show Steps p.tables e below (T360.setTop (mkF m 11 #[.val (.ref a1), .val (.int p2), .val (.int p3)] [(.int r'_360)])) _
    exact retOut X360 hx Bd.returns rfl (Or.inl ⟨rfl, Or.inl rfl, _, rfl⟩) (hb hby d28_11) hr
  · show Qrm28 Z a1 p2 p3 b1 b2 b3 k1 k2 k3 ns bs cs sz cp n h0 n0 _ T360.heap _
    skip
    exact ⟨ns'_360, bs'_360, cs'_360, sz'_360, cp'_360, n'_360, r'_360, rfl, N360, K360, U360_0, U360_1, U360_2, U360_3, U360_4, U360_5, U360_6, U360_7, U360_8, U360_9, U360_10, U360_11, own_cp_equiv qI.1 qa qb Pq358_0 Pq360_0⟩
def Qrm12 (Z : State) (a1 : Addr) (p2 : Int32) (p3 : Int32) (p4 : Int32) (b1 : Addr) (b2 : Addr) (b3 : Addr) (k1 : ClassId) (k2 : ClassId) (k3 : ClassId) (ns : List Int32) (bs : List Int32) (cs : List Int32) (sz : Int32) (cp : Int64) (n : Nat) (h0 : Heap) (n0 : Nat) (v : Option Value) (h : Heap) (L : List Loc) : Prop := ∃ ns' : List Int32, ∃ bs' : List Int32, ∃ cs' : List Int32, ∃ sz' : Int32, ∃ cp' : Int64, ∃ n' : Nat, ∃ r' : Int32, v = some (.int r') ∧ Fr n0 L ∧ Keep h0 h [a1, b1, b2, b3] ∧ Exa Z h a1 OB ∧ Fld Z h a1 OB "variableCount" "I" (.int (3 : Int32)) ∧ Fld Z h a1 OB "maxComputations" "J" (.long (9223372036854775807 : Int64)) ∧ Fld Z h a1 OB "nodes" "[I" (.ref b1) ∧ Fld Z h a1 OB "buckets" "[I" (.ref b2) ∧ Fld Z h a1 OB "cacheBits" "I" (.int (10 : Int32)) ∧ Fld Z h a1 OB "cache" "[I" (.ref b3) ∧ Fld Z h a1 OB "size" "I" (.int sz') ∧ Fld Z h a1 OB "computations" "J" (.long cp') ∧ Arv Z h b1 k1 .int (256 : Int32) (own_I ns') (.int (0 : Int32)) ∧ Arv Z h b2 k2 .int (64 : Int32) (own_I bs') (.int (0 : Int32)) ∧ Arv Z h b3 k3 .int (4096 : Int32) (own_I cs') (.int (0 : Int32)) ∧ (own_CP 14 ns n cp (own_cop p2) p3 p4 ns' bs' cs' sz' cp' n' r')
theorem efrm12 (m : MethodId) (x0 : Addr) (x1 : Int32) (x2 : Int32) (x3 : Int32) : entryFrame m #[(.ref x0), (.int x1), (.int x2), (.int x3)] 4 = mkF m 0 #[.val (.ref x0), .val (.int x1), .val (.int x2), .val (.int x3)] [] := by first | (simp [entryFrame, mkF, argsToLocals, Value.category]; done) | rfl
set_option maxRecDepth 65536 in
set_option maxHeartbeats 40000000 in
theorem rm12 (l : Launch) (Z : State) (a0 : Array Value) (hw : ∀ d ∈ tables_1, d.before a0 Z = true) (ws : List Jvm.Cond) (a1 : Addr) (p2 : Int32) (p3 : Int32) (p4 : Int32) (b1 : Addr) (b2 : Addr) (b3 : Addr) (k1 : ClassId) (k2 : ClassId) (k3 : ClassId) (ns : List Int32) (bs : List Int32) (cs : List Int32) (sz : Int32) (cp : Int64) (n : Nat) (h0 : Heap) (n0 : Nat) (Z0 : n0 ≤ h0.size) (P0 : Exa Z h0 a1 OB) (P1 : Fld Z h0 a1 OB "variableCount" "I" (.int (3 : Int32))) (P2 : Fld Z h0 a1 OB "maxComputations" "J" (.long (9223372036854775807 : Int64))) (P3 : Fld Z h0 a1 OB "nodes" "[I" (.ref b1)) (P4 : Fld Z h0 a1 OB "buckets" "[I" (.ref b2)) (P5 : Fld Z h0 a1 OB "cacheBits" "I" (.int (10 : Int32))) (P6 : Fld Z h0 a1 OB "cache" "[I" (.ref b3)) (P7 : Fld Z h0 a1 OB "size" "I" (.int sz)) (P8 : Fld Z h0 a1 OB "computations" "J" (.long cp)) (P9 : Arv Z h0 b1 k1 .int (256 : Int32) (own_I ns) (.int (0 : Int32))) (P10 : Arv Z h0 b2 k2 .int (64 : Int32) (own_I bs) (.int (0 : Int32))) (P11 : Arv Z h0 b3 k3 .int (4096 : Int32) (own_I cs) (.int (0 : Int32))) (g_a1 : n0 ≤ a1) (g_b1 : n0 ≤ b1) (g_b2 : n0 ≤ b2) (g_b3 : n0 ≤ b3) (ne_a1_b1 : a1 ≠ b1) (ne_a1_b2 : a1 ≠ b2) (ne_a1_b3 : a1 ≠ b3) (ne_b1_b2 : b1 ≠ b2) (ne_b1_b3 : b1 ≠ b3) (ne_b2_b3 : b2 ≠ b3) (qI : own_Inv ns bs cs n) (qs : sz.toInt = (n : Int)) (qw : n + 14 ≤ 64) (qc : 0 ≤ cp.toInt ∧ cp.toInt + 14 ≤ 1000) (qa : 0 ≤ p3.toInt ∧ p3.toInt < n) (qb : 0 ≤ p4.toInt ∧ p4.toInt < n) :
    MetFree l (⟨"com/example/decider/decider/logic/bdd/BddEvaluatePinLaw", "combine", "(Lcom/example/decider/decider/logic/bdd/Bdd;III)I"⟩ : MethodName) (head1 (Jvm.Cond.code (⟨"com/example/decider/decider/logic/bdd/BddEvaluatePinLaw", "combine", "(Lcom/example/decider/decider/logic/bdd/Bdd;III)I"⟩ : MethodName) method_3_code 4 (some .int) :: ws) ({ frames := 8, cells := 0, slots := 0, locals := 144 } : Room)) (fun a U => a = #[(.ref a1), (.int p2), (.int p3), (.int p4)] ∧ Z.Warmed39 U.vm ∧ U.heap = h0) (fun _ _ _ _ _ => True) (fun _ U o U' => ∃ v L, o = .returned v ∧ Qrm12 Z a1 p2 p3 p4 b1 b2 b3 k1 k2 k3 ns bs cs sz cp n h0 n0 v U'.heap L ∧ FrameEnd U o U' L ({ frames := 8, cells := 0, slots := 0, locals := 144 } : Room).cells ({ frames := 8, cells := 0, slots := 0, locals := 144 } : Room).slots) := by
  refine MetFree.of_bodySF (plainFor_of_name pn_1) hisR ?_
  intro p e s m args below meth c s₁ Bd hml0 hP hK
  obtain ⟨rfl, hZ, hh⟩ := hP
  have hx := Bd.exec
  have hby := Bd.bytes
  have hml : c.maxLocals = 4 := hml0
  have hown : s.vm.findClass "com/example/decider/decider/logic/bdd/BddEvaluatePinLaw" = some m.cls := findClass_of_methodNamed Bd.named
  have hnm := (name_of_methodNamed Bd.named Bd.method).1
  have X0 : Stand p l e ({ frames := 8, cells := 0, slots := 0, locals := 144 } : Room) s m #[(.ref a1), (.int p2), (.int p3), (.int p4)] below meth c s₁ [] 0 0 := Stand.of_body Bd
  have e0 : s₁.heap = h0 := by rw [← hh, Bd.state]; rfl
  have N0 := Fr.nil n0
  have K0 : Keep h0 h0 [a1, b1, b2, b3] := Keep.refl h0 _
  refine own_go (B := s₁.setTop (mkF m 0 #[.val (.ref a1), .val (.int p2), .val (.int p3), .val (.int p4)] [])) (fun t k => castTop (efrm12 m a1 p2 p3 p4) k) ?_
  refine own_go (B := s₁.setTop (mkF m 1 #[.val (.ref a1), .val (.int p2), .val (.int p3), .val (.int p4)] [(.int p2)])) (fun t k => ?_) ?_
  · refine XS.iloadN X0.here hx rfl (hb hby d12_0) rfl ?_
    exact k
  by_cases hc1_362 : p2 = (0 : Int32)
  · refine own_go (B := s₁.setTop (mkF m 4 #[.val (.ref a1), .val (.int p2), .val (.int p3), .val (.int p4)] [])) (fun t k => ?_) ?_
    · refine XS.ifNo X0.here hx rfl (hb hby d12_1) rfl ((if0 _ _).trans (teq hc1_362).2) ?_
      exact k
    refine own_go (B := s₁.setTop (mkF m 7 #[.val (.ref a1), .val (.int p2), .val (.int p3), .val (.int p4)] [(.int p4), (.int p3), (.ref a1)])) (fun t k => ?_) ?_
    · refine XS.aloadN X0.here hx rfl (hb hby d12_4) rfl rfl ?_
      refine XS.iloadN X0.here hx rfl (hb hby d12_5) rfl ?_
      refine XS.iloadN X0.here hx rfl (hb hby d12_6) rfl ?_
      exact k
    obtain ⟨cq363, kq363, q363a, q363b, q363c⟩ := isOf hZ e0 P0
    obtain ⟨_, _, ⟨T363, L363, k363, n363⟩, -, X363, ⟨Lc363, hQ363, l363, y363, z363⟩, st363⟩ := X0.virtualBack hx (y := (⟨OB, "and", "(II)I"⟩ : MethodName)) (z := (⟨OB, "and", "(II)I"⟩ : MethodName)) hown (mvT hZ (own_w hw 89 rfl)) (mvT hZ (own_w hw 90 rfl)) (notFace_of_selects (args := #[]) (mvT hZ (own_w hw 92 rfl))) (mvT hZ (own_w hw 92 rfl)) (mvT hZ (own_w hw 91 rfl)) (by decide) (backOf (W := 0) (rm17 l Z a0 hw [] a1 p3 p4 b1 b2 b3 k1 k2 k3 ns bs cs sz cp n h0 n0 Z0 P0 P1 P2 P3 P4 P5 P6 P7 P8 P9 P10 P11 g_a1 g_b1 g_b2 g_b3 ne_a1_b1 ne_a1_b2 ne_a1_b3 ne_b1_b2 ne_b1_b3 ne_b2_b3 qI qs (by omega) (by omega) qa qb) hZ (own_w hw 93 rfl) (own_w hw 5 rfl) (by decide) (by decide)) q363a q363c (g := (mkF m 7 #[.val (.ref a1), .val (.int p2), .val (.int p3), .val (.int p4)] [(.int p4), (.int p3), (.ref a1)])) rfl (by rw [hml]; rfl) (Steps.refl _) (argsL := [(.int p3), (.int p4)]) (rest := []) (lenOf pd_5 rfl) rfl (by show 2 * 0 + _ ≤ _; exact Nat.le_of_eq rfl) (hb hby d12_7) (fun _ _ => ⟨rfl, e0, (by decide : 0 + 0 ≤ _), (by decide : 0 + 0 ≤ _)⟩)
    dsimp only [Pt.U, Pt.locs, Pt.cells, Pt.slots] at X363 l363 y363 z363 st363 hQ363
    subst l363 y363 z363
    obtain ⟨ns'_363, bs'_363, cs'_363, sz'_363, cp'_363, n'_363, r'_363, rfl, Nq363, Kq363, U363_0, U363_1, U363_2, U363_3, U363_4, U363_5, U363_6, U363_7, U363_8, U363_9, U363_10, U363_11, Pq363_0⟩ := hQ363
    have Q364 : Exa Z T363.heap a1 OB := P0.keep Kq363
    have Z363 : n0 ≤ T363.heap.size := Nat.le_trans Z0 Kq363.1
    have K363 : Keep h0 T363.heap [a1, b1, b2, b3] := K0.trans Kq363 (allS (Or.inl (List.mem_of_getElem? (i := 0) rfl)) (allS (Or.inl (List.mem_of_getElem? (i := 1) rfl)) (allS (Or.inl (List.mem_of_getElem? (i := 2) rfl)) (allS (Or.inl (List.mem_of_getElem? (i := 3) rfl)) all0))))
    have N363 := Fr.app N0 Nq363
    refine own_go (B := T363.setTop (mkF m 10 #[.val (.ref a1), .val (.int p2), .val (.int p3), .val (.int p4)] [(.int r'_363)])) (fun t k => st363.trans k) ?_
    obtain ⟨fs, hr, hrun, hended, hW, hsame⟩ := X363.leave (v := some (.int r'_363)) (fun h => by rw [Bd.returns] at h; cases h)
    refine ⟨_, _, ?_, hrun, hended, _, _, rfl, ?_, ⟨_, rfl⟩, hW, hsame.mono (by decide) (by decide)⟩
    · show Steps p.tables e below (T363.setTop (mkF m 10 #[.val (.ref a1), .val (.int p2), .val (.int p3), .val (.int p4)] [(.int r'_363)])) _
      exact retOut X363 hx Bd.returns rfl (Or.inl ⟨rfl, Or.inl rfl, _, rfl⟩) (hb hby d12_10) hr
    · show Qrm12 Z a1 p2 p3 p4 b1 b2 b3 k1 k2 k3 ns bs cs sz cp n h0 n0 _ T363.heap _
      skip
      exact ⟨ns'_363, bs'_363, cs'_363, sz'_363, cp'_363, n'_363, r'_363, rfl, N363, K363, U363_0, U363_1, U363_2, U363_3, U363_4, U363_5, U363_6, U363_7, U363_8, U363_9, U363_10, U363_11, own_cp_ap Pq363_0 (own_cop0 hc1_362)⟩
  · refine own_go (B := s₁.setTop (mkF m 11 #[.val (.ref a1), .val (.int p2), .val (.int p3), .val (.int p4)] [])) (fun t k => ?_) ?_
    · refine XS.ifYes X0.here hx rfl (pc0 := 1) (pc' := 11) rfl (hb hby d12_1) rfl ((if0 _ _).trans (feq hc1_362).2) (by decide) (by decide) ?_
      exact k
    refine own_go (B := s₁.setTop (mkF m 13 #[.val (.ref a1), .val (.int p2), .val (.int p3), .val (.int p4)] [(.int (1 : Int32)), (.int p2)])) (fun t k => ?_) ?_
    · refine XS.iloadN X0.here hx rfl (hb hby d12_11) rfl ?_
      refine XS.iconst X0.here hx rfl (hb hby d12_12) ?_
      exact k
    by_cases hc13_365 : p2 = (1 : Int32)
    · refine own_go (B := s₁.setTop (mkF m 16 #[.val (.ref a1), .val (.int p2), .val (.int p3), .val (.int p4)] [])) (fun t k => ?_) ?_
      · refine XS.icmpNo X0.here hx rfl (hb hby d12_13) rfl (teq hc13_365).2 ?_
        exact k
      refine own_go (B := s₁.setTop (mkF m 19 #[.val (.ref a1), .val (.int p2), .val (.int p3), .val (.int p4)] [(.int p4), (.int p3), (.ref a1)])) (fun t k => ?_) ?_
      · refine XS.aloadN X0.here hx rfl (hb hby d12_16) rfl rfl ?_
        refine XS.iloadN X0.here hx rfl (hb hby d12_17) rfl ?_
        refine XS.iloadN X0.here hx rfl (hb hby d12_18) rfl ?_
        exact k
      obtain ⟨cq366, kq366, q366a, q366b, q366c⟩ := isOf hZ e0 P0
      obtain ⟨_, _, ⟨T366, L366, k366, n366⟩, -, X366, ⟨Lc366, hQ366, l366, y366, z366⟩, st366⟩ := X0.virtualBack hx (y := (⟨OB, "or", "(II)I"⟩ : MethodName)) (z := (⟨OB, "or", "(II)I"⟩ : MethodName)) hown (mvT hZ (own_w hw 74 rfl)) (mvT hZ (own_w hw 75 rfl)) (notFace_of_selects (args := #[]) (mvT hZ (own_w hw 77 rfl))) (mvT hZ (own_w hw 77 rfl)) (mvT hZ (own_w hw 76 rfl)) (by decide) (backOf (W := 0) (rm13 l Z a0 hw [] a1 p3 p4 b1 b2 b3 k1 k2 k3 ns bs cs sz cp n h0 n0 Z0 P0 P1 P2 P3 P4 P5 P6 P7 P8 P9 P10 P11 g_a1 g_b1 g_b2 g_b3 ne_a1_b1 ne_a1_b2 ne_a1_b3 ne_b1_b2 ne_b1_b3 ne_b2_b3 qI qs (by omega) (by omega) qa qb) hZ (own_w hw 78 rfl) (own_w hw 5 rfl) (by decide) (by decide)) q366a q366c (g := (mkF m 19 #[.val (.ref a1), .val (.int p2), .val (.int p3), .val (.int p4)] [(.int p4), (.int p3), (.ref a1)])) rfl (by rw [hml]; rfl) (Steps.refl _) (argsL := [(.int p3), (.int p4)]) (rest := []) (lenOf pd_5 rfl) rfl (by show 2 * 0 + _ ≤ _; exact Nat.le_of_eq rfl) (hb hby d12_19) (fun _ _ => ⟨rfl, e0, (by decide : 0 + 0 ≤ _), (by decide : 0 + 0 ≤ _)⟩)
      dsimp only [Pt.U, Pt.locs, Pt.cells, Pt.slots] at X366 l366 y366 z366 st366 hQ366
      subst l366 y366 z366
      obtain ⟨ns'_366, bs'_366, cs'_366, sz'_366, cp'_366, n'_366, r'_366, rfl, Nq366, Kq366, U366_0, U366_1, U366_2, U366_3, U366_4, U366_5, U366_6, U366_7, U366_8, U366_9, U366_10, U366_11, Pq366_0⟩ := hQ366
      have Q367 : Exa Z T366.heap a1 OB := P0.keep Kq366
      have Z366 : n0 ≤ T366.heap.size := Nat.le_trans Z0 Kq366.1
      have K366 : Keep h0 T366.heap [a1, b1, b2, b3] := K0.trans Kq366 (allS (Or.inl (List.mem_of_getElem? (i := 0) rfl)) (allS (Or.inl (List.mem_of_getElem? (i := 1) rfl)) (allS (Or.inl (List.mem_of_getElem? (i := 2) rfl)) (allS (Or.inl (List.mem_of_getElem? (i := 3) rfl)) all0))))
      have N366 := Fr.app N0 Nq366
      refine own_go (B := T366.setTop (mkF m 22 #[.val (.ref a1), .val (.int p2), .val (.int p3), .val (.int p4)] [(.int r'_366)])) (fun t k => st366.trans k) ?_
      obtain ⟨fs, hr, hrun, hended, hW, hsame⟩ := X366.leave (v := some (.int r'_366)) (fun h => by rw [Bd.returns] at h; cases h)
      refine ⟨_, _, ?_, hrun, hended, _, _, rfl, ?_, ⟨_, rfl⟩, hW, hsame.mono (by decide) (by decide)⟩
      · show Steps p.tables e below (T366.setTop (mkF m 22 #[.val (.ref a1), .val (.int p2), .val (.int p3), .val (.int p4)] [(.int r'_366)])) _
        exact retOut X366 hx Bd.returns rfl (Or.inl ⟨rfl, Or.inl rfl, _, rfl⟩) (hb hby d12_22) hr
      · show Qrm12 Z a1 p2 p3 p4 b1 b2 b3 k1 k2 k3 ns bs cs sz cp n h0 n0 _ T366.heap _
        skip
        exact ⟨ns'_366, bs'_366, cs'_366, sz'_366, cp'_366, n'_366, r'_366, rfl, N366, K366, U366_0, U366_1, U366_2, U366_3, U366_4, U366_5, U366_6, U366_7, U366_8, U366_9, U366_10, U366_11, own_cp_ap Pq366_0 (own_cop1 hc1_362 hc13_365)⟩
    · refine own_go (B := s₁.setTop (mkF m 23 #[.val (.ref a1), .val (.int p2), .val (.int p3), .val (.int p4)] [])) (fun t k => ?_) ?_
      · refine XS.icmpYes X0.here hx rfl (pc0 := 13) (pc' := 23) rfl (hb hby d12_13) rfl (feq hc13_365).2 (by decide) (by decide) ?_
        exact k
      refine own_go (B := s₁.setTop (mkF m 25 #[.val (.ref a1), .val (.int p2), .val (.int p3), .val (.int p4)] [(.int (2 : Int32)), (.int p2)])) (fun t k => ?_) ?_
      · refine XS.iloadN X0.here hx rfl (hb hby d12_23) rfl ?_
        refine XS.iconst X0.here hx rfl (hb hby d12_24) ?_
        exact k
      by_cases hc25_368 : p2 = (2 : Int32)
      · refine own_go (B := s₁.setTop (mkF m 28 #[.val (.ref a1), .val (.int p2), .val (.int p3), .val (.int p4)] [])) (fun t k => ?_) ?_
        · refine XS.icmpNo X0.here hx rfl (hb hby d12_25) rfl (teq hc25_368).2 ?_
          exact k
        refine own_go (B := s₁.setTop (mkF m 31 #[.val (.ref a1), .val (.int p2), .val (.int p3), .val (.int p4)] [(.int p4), (.int p3), (.ref a1)])) (fun t k => ?_) ?_
        · refine XS.aloadN X0.here hx rfl (hb hby d12_28) rfl rfl ?_
          refine XS.iloadN X0.here hx rfl (hb hby d12_29) rfl ?_
          refine XS.iloadN X0.here hx rfl (hb hby d12_30) rfl ?_
          exact k
        obtain ⟨cq369, kq369, q369a, q369b, q369c⟩ := isOf hZ e0 P0
        obtain ⟨_, _, ⟨T369, L369, k369, n369⟩, -, X369, ⟨Lc369, hQ369, l369, y369, z369⟩, st369⟩ := X0.virtualBack hx (y := (⟨OB, "andNot", "(II)I"⟩ : MethodName)) (z := (⟨OB, "andNot", "(II)I"⟩ : MethodName)) hown (mvT hZ (own_w hw 145 rfl)) (mvT hZ (own_w hw 146 rfl)) (notFace_of_selects (args := #[]) (mvT hZ (own_w hw 148 rfl))) (mvT hZ (own_w hw 148 rfl)) (mvT hZ (own_w hw 147 rfl)) (by decide) (backOf (W := 0) (rm30 l Z a0 hw [] a1 p3 p4 b1 b2 b3 k1 k2 k3 ns bs cs sz cp n h0 n0 Z0 P0 P1 P2 P3 P4 P5 P6 P7 P8 P9 P10 P11 g_a1 g_b1 g_b2 g_b3 ne_a1_b1 ne_a1_b2 ne_a1_b3 ne_b1_b2 ne_b1_b3 ne_b2_b3 qI qs (by omega) (by omega) qa qb) hZ (own_w hw 149 rfl) (own_w hw 5 rfl) (by decide) (by decide)) q369a q369c (g := (mkF m 31 #[.val (.ref a1), .val (.int p2), .val (.int p3), .val (.int p4)] [(.int p4), (.int p3), (.ref a1)])) rfl (by rw [hml]; rfl) (Steps.refl _) (argsL := [(.int p3), (.int p4)]) (rest := []) (lenOf pd_5 rfl) rfl (by show 2 * 0 + _ ≤ _; exact Nat.le_of_eq rfl) (hb hby d12_31) (fun _ _ => ⟨rfl, e0, (by decide : 0 + 0 ≤ _), (by decide : 0 + 0 ≤ _)⟩)
        dsimp only [Pt.U, Pt.locs, Pt.cells, Pt.slots] at X369 l369 y369 z369 st369 hQ369
        subst l369 y369 z369
        obtain ⟨ns'_369, bs'_369, cs'_369, sz'_369, cp'_369, n'_369, r'_369, rfl, Nq369, Kq369, U369_0, U369_1, U369_2, U369_3, U369_4, U369_5, U369_6, U369_7, U369_8, U369_9, U369_10, U369_11, Pq369_0⟩ := hQ369
        have Q370 : Exa Z T369.heap a1 OB := P0.keep Kq369
        have Z369 : n0 ≤ T369.heap.size := Nat.le_trans Z0 Kq369.1
        have K369 : Keep h0 T369.heap [a1, b1, b2, b3] := K0.trans Kq369 (allS (Or.inl (List.mem_of_getElem? (i := 0) rfl)) (allS (Or.inl (List.mem_of_getElem? (i := 1) rfl)) (allS (Or.inl (List.mem_of_getElem? (i := 2) rfl)) (allS (Or.inl (List.mem_of_getElem? (i := 3) rfl)) all0))))
        have N369 := Fr.app N0 Nq369
        refine own_go (B := T369.setTop (mkF m 34 #[.val (.ref a1), .val (.int p2), .val (.int p3), .val (.int p4)] [(.int r'_369)])) (fun t k => st369.trans k) ?_
        obtain ⟨fs, hr, hrun, hended, hW, hsame⟩ := X369.leave (v := some (.int r'_369)) (fun h => by rw [Bd.returns] at h; cases h)
        refine ⟨_, _, ?_, hrun, hended, _, _, rfl, ?_, ⟨_, rfl⟩, hW, hsame.mono (by decide) (by decide)⟩
        · show Steps p.tables e below (T369.setTop (mkF m 34 #[.val (.ref a1), .val (.int p2), .val (.int p3), .val (.int p4)] [(.int r'_369)])) _
          exact retOut X369 hx Bd.returns rfl (Or.inl ⟨rfl, Or.inl rfl, _, rfl⟩) (hb hby d12_34) hr
        · show Qrm12 Z a1 p2 p3 p4 b1 b2 b3 k1 k2 k3 ns bs cs sz cp n h0 n0 _ T369.heap _
          skip
          exact ⟨ns'_369, bs'_369, cs'_369, sz'_369, cp'_369, n'_369, r'_369, rfl, N369, K369, U369_0, U369_1, U369_2, U369_3, U369_4, U369_5, U369_6, U369_7, U369_8, U369_9, U369_10, U369_11, own_cp_ap Pq369_0 (own_cop2 hc1_362 hc13_365 hc25_368)⟩
      · refine own_go (B := s₁.setTop (mkF m 35 #[.val (.ref a1), .val (.int p2), .val (.int p3), .val (.int p4)] [])) (fun t k => ?_) ?_
        · refine XS.icmpYes X0.here hx rfl (pc0 := 25) (pc' := 35) rfl (hb hby d12_25) rfl (feq hc25_368).2 (by decide) (by decide) ?_
          exact k
        refine own_go (B := s₁.setTop (mkF m 38 #[.val (.ref a1), .val (.int p2), .val (.int p3), .val (.int p4)] [(.int p4), (.int p3), (.ref a1)])) (fun t k => ?_) ?_
        · refine XS.aloadN X0.here hx rfl (hb hby d12_35) rfl rfl ?_
          refine XS.iloadN X0.here hx rfl (hb hby d12_36) rfl ?_
          refine XS.iloadN X0.here hx rfl (hb hby d12_37) rfl ?_
          exact k
        obtain ⟨cq371, kq371, q371a, q371b, q371c⟩ := isOf hZ e0 P0
        obtain ⟨_, _, ⟨T371, L371, k371, n371⟩, -, X371, ⟨Lc371, hQ371, l371, y371, z371⟩, st371⟩ := X0.virtualBack hx (y := (⟨OB, "equivalent", "(II)I"⟩ : MethodName)) (z := (⟨OB, "equivalent", "(II)I"⟩ : MethodName)) hown (mvT hZ (own_w hw 135 rfl)) (mvT hZ (own_w hw 136 rfl)) (notFace_of_selects (args := #[]) (mvT hZ (own_w hw 138 rfl))) (mvT hZ (own_w hw 138 rfl)) (mvT hZ (own_w hw 137 rfl)) (by decide) (backOf (W := 0) (rm28 l Z a0 hw [] a1 p3 p4 b1 b2 b3 k1 k2 k3 ns bs cs sz cp n h0 n0 Z0 P0 P1 P2 P3 P4 P5 P6 P7 P8 P9 P10 P11 g_a1 g_b1 g_b2 g_b3 ne_a1_b1 ne_a1_b2 ne_a1_b3 ne_b1_b2 ne_b1_b3 ne_b2_b3 qI qs (by omega) (by omega) qa qb) hZ (own_w hw 139 rfl) (own_w hw 5 rfl) (by decide) (by decide)) q371a q371c (g := (mkF m 38 #[.val (.ref a1), .val (.int p2), .val (.int p3), .val (.int p4)] [(.int p4), (.int p3), (.ref a1)])) rfl (by rw [hml]; rfl) (Steps.refl _) (argsL := [(.int p3), (.int p4)]) (rest := []) (lenOf pd_5 rfl) rfl (by show 2 * 0 + _ ≤ _; exact Nat.le_of_eq rfl) (hb hby d12_38) (fun _ _ => ⟨rfl, e0, (by decide : 0 + 0 ≤ _), (by decide : 0 + 0 ≤ _)⟩)
        dsimp only [Pt.U, Pt.locs, Pt.cells, Pt.slots] at X371 l371 y371 z371 st371 hQ371
        subst l371 y371 z371
        obtain ⟨ns'_371, bs'_371, cs'_371, sz'_371, cp'_371, n'_371, r'_371, rfl, Nq371, Kq371, U371_0, U371_1, U371_2, U371_3, U371_4, U371_5, U371_6, U371_7, U371_8, U371_9, U371_10, U371_11, Pq371_0⟩ := hQ371
        have Q372 : Exa Z T371.heap a1 OB := P0.keep Kq371
        have Z371 : n0 ≤ T371.heap.size := Nat.le_trans Z0 Kq371.1
        have K371 : Keep h0 T371.heap [a1, b1, b2, b3] := K0.trans Kq371 (allS (Or.inl (List.mem_of_getElem? (i := 0) rfl)) (allS (Or.inl (List.mem_of_getElem? (i := 1) rfl)) (allS (Or.inl (List.mem_of_getElem? (i := 2) rfl)) (allS (Or.inl (List.mem_of_getElem? (i := 3) rfl)) all0))))
        have N371 := Fr.app N0 Nq371
        refine own_go (B := T371.setTop (mkF m 41 #[.val (.ref a1), .val (.int p2), .val (.int p3), .val (.int p4)] [(.int r'_371)])) (fun t k => st371.trans k) ?_
        obtain ⟨fs, hr, hrun, hended, hW, hsame⟩ := X371.leave (v := some (.int r'_371)) (fun h => by rw [Bd.returns] at h; cases h)
        refine ⟨_, _, ?_, hrun, hended, _, _, rfl, ?_, ⟨_, rfl⟩, hW, hsame.mono (by decide) (by decide)⟩
        · show Steps p.tables e below (T371.setTop (mkF m 41 #[.val (.ref a1), .val (.int p2), .val (.int p3), .val (.int p4)] [(.int r'_371)])) _
          exact retOut X371 hx Bd.returns rfl (Or.inl ⟨rfl, Or.inl rfl, _, rfl⟩) (hb hby d12_41) hr
        · show Qrm12 Z a1 p2 p3 p4 b1 b2 b3 k1 k2 k3 ns bs cs sz cp n h0 n0 _ T371.heap _
          skip
          exact ⟨ns'_371, bs'_371, cs'_371, sz'_371, cp'_371, n'_371, r'_371, rfl, N371, K371, U371_0, U371_1, U371_2, U371_3, U371_4, U371_5, U371_6, U371_7, U371_8, U371_9, U371_10, U371_11, own_cp_f Pq371_0 (own_cop3 hc1_362 hc13_365 hc25_368)⟩
def own_vv (i r0 r1 r2 : Int32) : Int32 := if i = 0 then 0 else if i = 1 then 1 else if i = 2 then nar .boolean r0 else if i = 3 then nar .boolean r1 else nar .boolean r2
def own_rho (rs : List Int32) : Int → Bool := fun v => decide (¬ rs.getD v.toNat 0 = 0)
theorem own_one {x : Int32} (h : (1 : Int32) < x) : 2 ≤ x.toInt := by
  have e : (1 : Int32).toInt = 1 := rfl
  rw [Int32.lt_iff_toInt_lt, e] at h; omega
theorem own_ev_v {ns bs cs : List Int32} {n : Nat} {x : Int32} (I : own_Inv ns bs cs n) (h0 : 2 ≤ x.toInt) (h1 : x.toInt < n) : (ns.getD (4 * x.toInt.toNat) 0).toInt = (((ns.getD (4 * x.toInt.toNat) 0).toInt.toNat : Nat) : Int) ∧ (ns.getD (4 * x.toInt.toNat) 0).toInt.toNat < 3 := by
  have := (I.1.2.2.2.2.2 x.toInt.toNat (by omega) (by omega)).1
  unfold own_vr at this; omega
theorem own_ev_hi {ns bs cs rs : List Int32} {n : Nat} {x p : Int32} (I : own_Inv ns bs cs n) (h0 : 2 ≤ x.toInt) (h1 : x.toInt < n) (hv : own_val ns (own_rho rs) x.toInt.toNat = own_val ns (own_rho rs) p.toInt.toNat) (hc : ¬ rs.getD (ns.getD (4 * x.toInt.toNat) 0).toInt.toNat 0 = (0 : Int32)) :
    (0 ≤ (ns.getD (4 * x.toInt.toNat + 2) 0).toInt ∧ (ns.getD (4 * x.toInt.toNat + 2) 0).toInt < x.toInt) ∧ own_val ns (own_rho rs) (ns.getD (4 * x.toInt.toNat + 2) 0).toInt.toNat = own_val ns (own_rho rs) p.toInt.toNat := by
  have d := I.1.2.2.2.2.2 x.toInt.toNat (by omega) (by omega)
  have v := own_val_nd I.1 (own_rho rs) (show 2 ≤ x.toInt.toNat by omega) (by omega)
  have e : own_rho rs (own_vr ns x.toInt.toNat) = true := decide_eq_true hc
  rw [e] at v
  obtain ⟨-, -, h, -⟩ := d
  unfold own_hi at h v
  exact ⟨⟨h.1, by omega⟩, by rw [← hv, v]; rfl⟩
theorem own_ev_lo {ns bs cs rs : List Int32} {n : Nat} {x p : Int32} (I : own_Inv ns bs cs n) (h0 : 2 ≤ x.toInt) (h1 : x.toInt < n) (hv : own_val ns (own_rho rs) x.toInt.toNat = own_val ns (own_rho rs) p.toInt.toNat) (hc : rs.getD (ns.getD (4 * x.toInt.toNat) 0).toInt.toNat 0 = (0 : Int32)) :
    (0 ≤ (ns.getD (4 * x.toInt.toNat + 1) 0).toInt ∧ (ns.getD (4 * x.toInt.toNat + 1) 0).toInt < x.toInt) ∧ own_val ns (own_rho rs) (ns.getD (4 * x.toInt.toNat + 1) 0).toInt.toNat = own_val ns (own_rho rs) p.toInt.toNat := by
  have d := I.1.2.2.2.2.2 x.toInt.toNat (by omega) (by omega)
  have v := own_val_nd I.1 (own_rho rs) (show 2 ≤ x.toInt.toNat by omega) (by omega)
  have e : own_rho rs (own_vr ns x.toInt.toNat) = false := decide_eq_false (fun q => q hc)
  rw [e] at v
  obtain ⟨-, h, -⟩ := d
  unfold own_lo at h v
  exact ⟨⟨h.1, by omega⟩, by rw [← hv, v]; rfl⟩
theorem own_ev_1 {ns rs : List Int32} {x p : Int32} (hv : own_val ns (own_rho rs) x.toInt.toNat = own_val ns (own_rho rs) p.toInt.toNat) (h : x = (1 : Int32)) : (1 : Int32) = if own_val ns (own_rho rs) p.toInt.toNat then (1 : Int32) else (0 : Int32) := by
  rw [← hv, h]; rfl
theorem own_ev_0 {ns rs : List Int32} {x p : Int32} (hv : own_val ns (own_rho rs) x.toInt.toNat = own_val ns (own_rho rs) p.toInt.toNat) (h0 : 0 ≤ x.toInt) (h1 : ¬ (1 : Int32) < x) (h : ¬ x = (1 : Int32)) : (0 : Int32) = if own_val ns (own_rho rs) p.toInt.toNat then (1 : Int32) else (0 : Int32) := by
  have e : (1 : Int32).toInt = 1 := rfl
  rw [Int32.lt_iff_toInt_lt, e] at h1
  have : x.toInt = 0 := by
    have : ¬ x.toInt = 1 := fun q => h (Int32.toInt_inj.mp (q.trans e.symm))
    omega
  rw [← hv, this]; rfl
theorem own_mu {x y : Int32} {N : Nat} (h : x.toInt.toNat < N + 1) (h2 : 2 ≤ x.toInt) (g : 0 ≤ y.toInt ∧ y.toInt < x.toInt) : y.toInt.toNat < N := by omega
def Qrm25 (Z : State) (p1 : Int32) (a2 : Addr) (k1 : ClassId) (r0 : Int32) (r1 : Int32) (r2 : Int32) (h0 : Heap) (n0 : Nat) (v : Option Value) (h : Heap) (L : List Loc) : Prop := v = some (.int (own_vv p1 r0 r1 r2)) ∧ Fr n0 L ∧ h = h0
theorem efrm25 (m : MethodId) (x0 : Int32) (x1 : Addr) : entryFrame m #[(.int x0), (.ref x1)] 2 = mkF m 0 #[.val (.int x0), .val (.ref x1)] [] := by first | (simp [entryFrame, mkF, argsToLocals, Value.category]; done) | rfl
set_option maxRecDepth 65536 in
set_option maxHeartbeats 40000000 in
theorem rm25 (l : Launch) (Z : State) (a0 : Array Value) (hw : ∀ d ∈ tables_1, d.before a0 Z = true) (ws : List Jvm.Cond) (p1 : Int32) (a2 : Addr) (k1 : ClassId) (r0 : Int32) (r1 : Int32) (r2 : Int32) (h0 : Heap) (n0 : Nat) (Z0 : n0 ≤ h0.size) (P0 : Arv Z h0 a2 k1 .boolean (3 : Int32) [(.int r0), (.int r1), (.int r2)] (.int (0 : Int32))) (qi : p1 = (0 : Int32) ∨ p1 = (1 : Int32) ∨ p1 = (2 : Int32) ∨ p1 = (3 : Int32) ∨ p1 = (4 : Int32)) :
    MetFree l (⟨"com/example/decider/decider/logic/bdd/BddEvaluatePinLaw", "value", "(I[Z)Z"⟩ : MethodName) (head1 (Jvm.Cond.code (⟨"com/example/decider/decider/logic/bdd/BddEvaluatePinLaw", "value", "(I[Z)Z"⟩ : MethodName) method_4_code 2 (some .boolean) :: ws) ({ frames := 0, cells := 0, slots := 0, locals := 0 } : Room)) (fun a U => a = #[(.int p1), (.ref a2)] ∧ Z.Warmed39 U.vm ∧ U.heap = h0) (fun _ _ _ _ _ => True) (fun _ U o U' => ∃ v L, o = .returned v ∧ Qrm25 Z p1 a2 k1 r0 r1 r2 h0 n0 v U'.heap L ∧ FrameEnd U o U' L ({ frames := 0, cells := 0, slots := 0, locals := 0 } : Room).cells ({ frames := 0, cells := 0, slots := 0, locals := 0 } : Room).slots) := by
  refine MetFree.of_bodySF (plainFor_of_name pn_1) hisR ?_
  intro p e s m args below meth c s₁ Bd hml0 hP hK
  obtain ⟨rfl, hZ, hh⟩ := hP
  have hx := Bd.exec
  have hby := Bd.bytes
  have hml : c.maxLocals = 2 := hml0
  have hown : s.vm.findClass "com/example/decider/decider/logic/bdd/BddEvaluatePinLaw" = some m.cls := findClass_of_methodNamed Bd.named
  have hnm := (name_of_methodNamed Bd.named Bd.method).1
  have X0 : Stand p l e ({ frames := 0, cells := 0, slots := 0, locals := 0 } : Room) s m #[(.int p1), (.ref a2)] below meth c s₁ [] 0 0 := Stand.of_body Bd
  have e0 : s₁.heap = h0 := by rw [← hh, Bd.state]; rfl
  have N0 := Fr.nil n0
  have K0 : Keep h0 h0 [] := Keep.refl h0 _
  refine own_go (B := s₁.setTop (mkF m 0 #[.val (.int p1), .val (.ref a2)] [])) (fun t k => castTop (efrm25 m p1 a2) k) ?_
  rcases qi with rfl | rfl | rfl | rfl | rfl
  · refine own_go (B := s₁.setTop (mkF m 5 #[.val (.int (0 : Int32)), .val (.ref a2)] [(.int (0 : Int32))])) (fun t k => ?_) ?_
    · refine XS.iloadN X0.here hx rfl (hb hby d25_0) rfl ?_
      refine XS.ifNo X0.here hx rfl (hb hby d25_1) rfl ((if0 _ _).trans (teq (rfl : (0 : Int32) = (0 : Int32))).2) ?_
      refine XS.iconst X0.here hx rfl (hb hby d25_4) ?_
      exact k
    obtain ⟨fs, hr, hrun, hended, hW, hsame⟩ := X0.leave (v := some (.int (0 : Int32))) (fun h => by rw [Bd.returns] at h; cases h)
    refine ⟨_, _, ?_, hrun, hended, _, _, rfl, ?_, ⟨_, rfl⟩, hW, hsame.mono (by decide) (by decide)⟩
    · show Steps p.tables e below (s₁.setTop (mkF m 5 #[.val (.int (0 : Int32)), .val (.ref a2)] [(.int (0 : Int32))])) _
      exact retN X0 hx (t := .boolean) Bd.returns (by simp) (hb hby d25_5) hr
    · show Qrm25 Z (0 : Int32) a2 k1 r0 r1 r2 h0 n0 _ s₁.heap _
      rw [e0]
      exact ⟨rfl, N0, rfl⟩
  · refine own_go (B := s₁.setTop (mkF m 12 #[.val (.int (1 : Int32)), .val (.ref a2)] [(.int (1 : Int32))])) (fun t k => ?_) ?_
    · refine XS.iloadN X0.here hx rfl (hb hby d25_0) rfl ?_
      refine XS.ifYes X0.here hx rfl (pc0 := 1) (pc' := 6) rfl (hb hby d25_1) rfl ((if0 _ _).trans (feq (by decide : ¬ ((1 : Int32) = (0 : Int32)))).2) (by decide) (by decide) ?_
      refine XS.iloadN X0.here hx rfl (hb hby d25_6) rfl ?_
      refine XS.iconst X0.here hx rfl (hb hby d25_7) ?_
      refine XS.icmpNo X0.here hx rfl (hb hby d25_8) rfl (teq (rfl : (1 : Int32) = (1 : Int32))).2 ?_
      refine XS.iconst X0.here hx rfl (hb hby d25_11) ?_
      exact k
    obtain ⟨fs, hr, hrun, hended, hW, hsame⟩ := X0.leave (v := some (.int (1 : Int32))) (fun h => by rw [Bd.returns] at h; cases h)
    refine ⟨_, _, ?_, hrun, hended, _, _, rfl, ?_, ⟨_, rfl⟩, hW, hsame.mono (by decide) (by decide)⟩
    · show Steps p.tables e below (s₁.setTop (mkF m 12 #[.val (.int (1 : Int32)), .val (.ref a2)] [(.int (1 : Int32))])) _
      exact retN X0 hx (t := .boolean) Bd.returns (by simp) (hb hby d25_12) hr
    · show Qrm25 Z (1 : Int32) a2 k1 r0 r1 r2 h0 n0 _ s₁.heap _
      rw [e0]
      exact ⟨rfl, N0, rfl⟩
  · refine own_go (B := s₁.setTop (mkF m 17 #[.val (.int (2 : Int32)), .val (.ref a2)] [(.int (0 : Int32)), (.ref a2)])) (fun t k => ?_) ?_
    · refine XS.iloadN X0.here hx rfl (hb hby d25_0) rfl ?_
      refine XS.ifYes X0.here hx rfl (pc0 := 1) (pc' := 6) rfl (hb hby d25_1) rfl ((if0 _ _).trans (feq (by decide : ¬ ((2 : Int32) = (0 : Int32)))).2) (by decide) (by decide) ?_
      refine XS.iloadN X0.here hx rfl (hb hby d25_6) rfl ?_
      refine XS.iconst X0.here hx rfl (hb hby d25_7) ?_
      refine XS.icmpYes X0.here hx rfl (pc0 := 8) (pc' := 13) rfl (hb hby d25_8) rfl (feq (by decide : ¬ ((2 : Int32) = (1 : Int32)))).2 (by decide) (by decide) ?_
      refine XS.aloadN X0.here hx rfl (hb hby d25_13) rfl rfl ?_
      refine XS.iloadN X0.here hx rfl (hb hby d25_14) rfl ?_
      refine XS.iconst X0.here hx rfl (hb hby d25_15) ?_
      refine XS.isub X0.here hx rfl (hb hby d25_16) rfl ?_
      exact k
    obtain ⟨cl378, Ar378, q378, S378, M378, Ha378, G378⟩ := id P0
    have hin378 : ¬ ((0 : Int32) < 0 ∨ cl378.slots.size ≤ ((0 : Int32)).toNatClampNeg) := inb_of S378 ⟨by decide, by decide⟩
    refine own_go (X0.baloadBooleans hx (j := (0 : Int32)) (v := (.int r0)) (by rw [e0]; exact Ar378.1) (State.isArrayOf_alike hZ.alike Ar378.2.1) Ar378.2.2 hin378 (Has.at Ha378 hin378 rfl) (g := (mkF m 17 #[.val (.int (2 : Int32)), .val (.ref a2)] [(.int (0 : Int32)), (.ref a2)])) rfl rfl (hb hby d25_17)) ?_
    obtain ⟨fs, hr, hrun, hended, hW, hsame⟩ := X0.leave (v := some (.int (nar .boolean r0))) (fun h => by rw [Bd.returns] at h; cases h)
    refine ⟨_, _, ?_, hrun, hended, _, _, rfl, ?_, ⟨_, rfl⟩, hW, hsame.mono (by decide) (by decide)⟩
    · show Steps p.tables e below (s₁.setTop (mkF m 18 #[.val (.int (2 : Int32)), .val (.ref a2)] [(.int r0)])) _
      exact retN X0 hx (t := .boolean) Bd.returns (by simp) (hb hby d25_18) hr
    · show Qrm25 Z (2 : Int32) a2 k1 r0 r1 r2 h0 n0 _ s₁.heap _
      rw [e0]
      exact ⟨rfl, N0, rfl⟩
  · refine own_go (B := s₁.setTop (mkF m 17 #[.val (.int (3 : Int32)), .val (.ref a2)] [(.int (1 : Int32)), (.ref a2)])) (fun t k => ?_) ?_
    · refine XS.iloadN X0.here hx rfl (hb hby d25_0) rfl ?_
      refine XS.ifYes X0.here hx rfl (pc0 := 1) (pc' := 6) rfl (hb hby d25_1) rfl ((if0 _ _).trans (feq (by decide : ¬ ((3 : Int32) = (0 : Int32)))).2) (by decide) (by decide) ?_
      refine XS.iloadN X0.here hx rfl (hb hby d25_6) rfl ?_
      refine XS.iconst X0.here hx rfl (hb hby d25_7) ?_
      refine XS.icmpYes X0.here hx rfl (pc0 := 8) (pc' := 13) rfl (hb hby d25_8) rfl (feq (by decide : ¬ ((3 : Int32) = (1 : Int32)))).2 (by decide) (by decide) ?_
      refine XS.aloadN X0.here hx rfl (hb hby d25_13) rfl rfl ?_
      refine XS.iloadN X0.here hx rfl (hb hby d25_14) rfl ?_
      refine XS.iconst X0.here hx rfl (hb hby d25_15) ?_
      refine XS.isub X0.here hx rfl (hb hby d25_16) rfl ?_
      exact k
    obtain ⟨cl381, Ar381, q381, S381, M381, Ha381, G381⟩ := id P0
    have hin381 : ¬ ((1 : Int32) < 0 ∨ cl381.slots.size ≤ ((1 : Int32)).toNatClampNeg) := inb_of S381 ⟨by decide, by decide⟩
    refine own_go (X0.baloadBooleans hx (j := (1 : Int32)) (v := (.int r1)) (by rw [e0]; exact Ar381.1) (State.isArrayOf_alike hZ.alike Ar381.2.1) Ar381.2.2 hin381 (Has.at Ha381 hin381 rfl) (g := (mkF m 17 #[.val (.int (3 : Int32)), .val (.ref a2)] [(.int (1 : Int32)), (.ref a2)])) rfl rfl (hb hby d25_17)) ?_
    obtain ⟨fs, hr, hrun, hended, hW, hsame⟩ := X0.leave (v := some (.int (nar .boolean r1))) (fun h => by rw [Bd.returns] at h; cases h)
    refine ⟨_, _, ?_, hrun, hended, _, _, rfl, ?_, ⟨_, rfl⟩, hW, hsame.mono (by decide) (by decide)⟩
    · show Steps p.tables e below (s₁.setTop (mkF m 18 #[.val (.int (3 : Int32)), .val (.ref a2)] [(.int r1)])) _
      exact retN X0 hx (t := .boolean) Bd.returns (by simp) (hb hby d25_18) hr
    · show Qrm25 Z (3 : Int32) a2 k1 r0 r1 r2 h0 n0 _ s₁.heap _
      rw [e0]
      exact ⟨rfl, N0, rfl⟩
  · refine own_go (B := s₁.setTop (mkF m 17 #[.val (.int (4 : Int32)), .val (.ref a2)] [(.int (2 : Int32)), (.ref a2)])) (fun t k => ?_) ?_
    · refine XS.iloadN X0.here hx rfl (hb hby d25_0) rfl ?_
      refine XS.ifYes X0.here hx rfl (pc0 := 1) (pc' := 6) rfl (hb hby d25_1) rfl ((if0 _ _).trans (feq (by decide : ¬ ((4 : Int32) = (0 : Int32)))).2) (by decide) (by decide) ?_
      refine XS.iloadN X0.here hx rfl (hb hby d25_6) rfl ?_
      refine XS.iconst X0.here hx rfl (hb hby d25_7) ?_
      refine XS.icmpYes X0.here hx rfl (pc0 := 8) (pc' := 13) rfl (hb hby d25_8) rfl (feq (by decide : ¬ ((4 : Int32) = (1 : Int32)))).2 (by decide) (by decide) ?_
      refine XS.aloadN X0.here hx rfl (hb hby d25_13) rfl rfl ?_
      refine XS.iloadN X0.here hx rfl (hb hby d25_14) rfl ?_
      refine XS.iconst X0.here hx rfl (hb hby d25_15) ?_
      refine XS.isub X0.here hx rfl (hb hby d25_16) rfl ?_
      exact k
    obtain ⟨cl384, Ar384, q384, S384, M384, Ha384, G384⟩ := id P0
    have hin384 : ¬ ((2 : Int32) < 0 ∨ cl384.slots.size ≤ ((2 : Int32)).toNatClampNeg) := inb_of S384 ⟨by decide, by decide⟩
    refine own_go (X0.baloadBooleans hx (j := (2 : Int32)) (v := (.int r2)) (by rw [e0]; exact Ar384.1) (State.isArrayOf_alike hZ.alike Ar384.2.1) Ar384.2.2 hin384 (Has.at Ha384 hin384 rfl) (g := (mkF m 17 #[.val (.int (4 : Int32)), .val (.ref a2)] [(.int (2 : Int32)), (.ref a2)])) rfl rfl (hb hby d25_17)) ?_
    obtain ⟨fs, hr, hrun, hended, hW, hsame⟩ := X0.leave (v := some (.int (nar .boolean r2))) (fun h => by rw [Bd.returns] at h; cases h)
    refine ⟨_, _, ?_, hrun, hended, _, _, rfl, ?_, ⟨_, rfl⟩, hW, hsame.mono (by decide) (by decide)⟩
    · show Steps p.tables e below (s₁.setTop (mkF m 18 #[.val (.int (4 : Int32)), .val (.ref a2)] [(.int r2)])) _
      exact retN X0 hx (t := .boolean) Bd.returns (by simp) (hb hby d25_18) hr
    · show Qrm25 Z (4 : Int32) a2 k1 r0 r1 r2 h0 n0 _ s₁.heap _
      rw [e0]
      exact ⟨rfl, N0, rfl⟩
def frm26 (p1 : Int32) (p2 : Int32) (p3 : Int32) : Int32 := (if p1 = (0 : Int32) then (if p2 = (0 : Int32) then (0 : Int32) else (if p3 = (0 : Int32) then (0 : Int32) else (1 : Int32))) else (if p1 = (1 : Int32) then (if p2 = (0 : Int32) then (if p3 = (0 : Int32) then (0 : Int32) else (1 : Int32)) else (1 : Int32)) else (if p1 = (2 : Int32) then (if p2 = (0 : Int32) then (0 : Int32) else (if p3 = (0 : Int32) then (1 : Int32) else (0 : Int32))) else (if p2 = p3 then (1 : Int32) else (0 : Int32)))))
def Qrm26 (Z : State) (p1 : Int32) (p2 : Int32) (p3 : Int32) (h0 : Heap) (n0 : Nat) (v : Option Value) (h : Heap) (L : List Loc) : Prop := v = some (.int (frm26 p1 p2 p3)) ∧ Fr n0 L ∧ h = h0
theorem efrm26 (m : MethodId) (x0 : Int32) (x1 : Int32) (x2 : Int32) : entryFrame m #[(.int x0), (.int x1), (.int x2)] 3 = mkF m 0 #[.val (.int x0), .val (.int x1), .val (.int x2)] [] := by first | (simp [entryFrame, mkF, argsToLocals, Value.category]; done) | rfl
set_option maxRecDepth 65536 in
set_option maxHeartbeats 40000000 in
theorem rm26 (l : Launch) (Z : State) (a0 : Array Value) (hw : ∀ d ∈ tables_1, d.before a0 Z = true) (ws : List Jvm.Cond) (p1 : Int32) (p2 : Int32) (p3 : Int32) (h0 : Heap) (n0 : Nat) (Z0 : n0 ≤ h0.size)  :
    MetFree l (⟨"com/example/decider/decider/logic/bdd/BddEvaluatePinLaw", "op", "(IZZ)Z"⟩ : MethodName) (head1 (Jvm.Cond.code (⟨"com/example/decider/decider/logic/bdd/BddEvaluatePinLaw", "op", "(IZZ)Z"⟩ : MethodName) method_5_code 3 (some .boolean) :: ws) ({ frames := 0, cells := 0, slots := 0, locals := 0 } : Room)) (fun a U => a = #[(.int p1), (.int p2), (.int p3)] ∧ Z.Warmed39 U.vm ∧ U.heap = h0) (fun _ _ _ _ _ => True) (fun _ U o U' => ∃ v L, o = .returned v ∧ Qrm26 Z p1 p2 p3 h0 n0 v U'.heap L ∧ FrameEnd U o U' L ({ frames := 0, cells := 0, slots := 0, locals := 0 } : Room).cells ({ frames := 0, cells := 0, slots := 0, locals := 0 } : Room).slots) := by
  refine MetFree.of_bodySF (plainFor_of_name pn_1) hisR ?_
  intro p e s m args below meth c s₁ Bd hml0 hP hK
  obtain ⟨rfl, hZ, hh⟩ := hP
  have hx := Bd.exec
  have hby := Bd.bytes
  have hml : c.maxLocals = 3 := hml0
  have hown : s.vm.findClass "com/example/decider/decider/logic/bdd/BddEvaluatePinLaw" = some m.cls := findClass_of_methodNamed Bd.named
  have hnm := (name_of_methodNamed Bd.named Bd.method).1
  have X0 : Stand p l e ({ frames := 0, cells := 0, slots := 0, locals := 0 } : Room) s m #[(.int p1), (.int p2), (.int p3)] below meth c s₁ [] 0 0 := Stand.of_body Bd
  have e0 : s₁.heap = h0 := by rw [← hh, Bd.state]; rfl
  have N0 := Fr.nil n0
  have K0 : Keep h0 h0 [] := Keep.refl h0 _
  refine own_go (B := s₁.setTop (mkF m 0 #[.val (.int p1), .val (.int p2), .val (.int p3)] [])) (fun t k => castTop (efrm26 m p1 p2 p3) k) ?_
  refine own_go (B := s₁.setTop (mkF m 1 #[.val (.int p1), .val (.int p2), .val (.int p3)] [(.int p1)])) (fun t k => ?_) ?_
  · refine XS.iloadN X0.here hx rfl (hb hby d26_0) rfl ?_
    exact k
  by_cases hc1_385 : p1 = (0 : Int32)
  · refine own_go (B := s₁.setTop (mkF m 4 #[.val (.int p1), .val (.int p2), .val (.int p3)] [])) (fun t k => ?_) ?_
    · refine XS.ifNo X0.here hx rfl (hb hby d26_1) rfl ((if0 _ _).trans (teq hc1_385).2) ?_
      exact k
    refine own_go (B := s₁.setTop (mkF m 5 #[.val (.int p1), .val (.int p2), .val (.int p3)] [(.int p2)])) (fun t k => ?_) ?_
    · refine XS.iloadN X0.here hx rfl (hb hby d26_4) rfl ?_
      exact k
    by_cases hc5_386 : p2 = (0 : Int32)
    · refine own_go (B := s₁.setTop (mkF m 16 #[.val (.int p1), .val (.int p2), .val (.int p3)] [])) (fun t k => ?_) ?_
      · refine XS.ifYes X0.here hx rfl (pc0 := 5) (pc' := 16) rfl (hb hby d26_5) rfl ((if0 _ _).trans (teq hc5_386).1) (by decide) (by decide) ?_
        exact k
      refine own_go (B := s₁.setTop (mkF m 17 #[.val (.int p1), .val (.int p2), .val (.int p3)] [(.int (0 : Int32))])) (fun t k => ?_) ?_
      · refine XS.iconst X0.here hx rfl (hb hby d26_16) ?_
        exact k
      obtain ⟨fs, hr, hrun, hended, hW, hsame⟩ := X0.leave (v := some (.int (0 : Int32))) (fun h => by rw [Bd.returns] at h; cases h)
      refine ⟨_, _, ?_, hrun, hended, _, _, rfl, ?_, ⟨_, rfl⟩, hW, hsame.mono (by decide) (by decide)⟩
      · show Steps p.tables e below (s₁.setTop (mkF m 17 #[.val (.int p1), .val (.int p2), .val (.int p3)] [(.int (0 : Int32))])) _
        exact retN X0 hx (t := .boolean) Bd.returns (by simp) (hb hby d26_17) hr
      · show Qrm26 Z p1 p2 p3 h0 n0 _ s₁.heap _
        rw [e0]
        exact ⟨(by simp only [frm26, if_pos hc1_385, if_pos hc5_386]), N0, rfl⟩
    · refine own_go (B := s₁.setTop (mkF m 8 #[.val (.int p1), .val (.int p2), .val (.int p3)] [])) (fun t k => ?_) ?_
      · refine XS.ifNo X0.here hx rfl (hb hby d26_5) rfl ((if0 _ _).trans (feq hc5_386).1) ?_
        exact k
      refine own_go (B := s₁.setTop (mkF m 9 #[.val (.int p1), .val (.int p2), .val (.int p3)] [(.int p3)])) (fun t k => ?_) ?_
      · refine XS.iloadN X0.here hx rfl (hb hby d26_8) rfl ?_
        exact k
      by_cases hc9_387 : p3 = (0 : Int32)
      · refine own_go (B := s₁.setTop (mkF m 16 #[.val (.int p1), .val (.int p2), .val (.int p3)] [])) (fun t k => ?_) ?_
        · refine XS.ifYes X0.here hx rfl (pc0 := 9) (pc' := 16) rfl (hb hby d26_9) rfl ((if0 _ _).trans (teq hc9_387).1) (by decide) (by decide) ?_
          exact k
        refine own_go (B := s₁.setTop (mkF m 17 #[.val (.int p1), .val (.int p2), .val (.int p3)] [(.int (0 : Int32))])) (fun t k => ?_) ?_
        · refine XS.iconst X0.here hx rfl (hb hby d26_16) ?_
          exact k
        obtain ⟨fs, hr, hrun, hended, hW, hsame⟩ := X0.leave (v := some (.int (0 : Int32))) (fun h => by rw [Bd.returns] at h; cases h)
        refine ⟨_, _, ?_, hrun, hended, _, _, rfl, ?_, ⟨_, rfl⟩, hW, hsame.mono (by decide) (by decide)⟩
        · show Steps p.tables e below (s₁.setTop (mkF m 17 #[.val (.int p1), .val (.int p2), .val (.int p3)] [(.int (0 : Int32))])) _
          exact retN X0 hx (t := .boolean) Bd.returns (by simp) (hb hby d26_17) hr
        · show Qrm26 Z p1 p2 p3 h0 n0 _ s₁.heap _
          rw [e0]
          exact ⟨(by simp only [frm26, if_pos hc1_385, if_neg hc5_386, if_pos hc9_387]), N0, rfl⟩
      · refine own_go (B := s₁.setTop (mkF m 12 #[.val (.int p1), .val (.int p2), .val (.int p3)] [])) (fun t k => ?_) ?_
        · refine XS.ifNo X0.here hx rfl (hb hby d26_9) rfl ((if0 _ _).trans (feq hc9_387).1) ?_
          exact k
        refine own_go (B := s₁.setTop (mkF m 17 #[.val (.int p1), .val (.int p2), .val (.int p3)] [(.int (1 : Int32))])) (fun t k => ?_) ?_
        · refine XS.iconst X0.here hx rfl (hb hby d26_12) ?_
          refine XS.goto X0.here hx rfl (pc0 := 13) (pc' := 17) rfl (hb hby d26_13) (by decide) (by decide) ?_
          exact k
        obtain ⟨fs, hr, hrun, hended, hW, hsame⟩ := X0.leave (v := some (.int (1 : Int32))) (fun h => by rw [Bd.returns] at h; cases h)
        refine ⟨_, _, ?_, hrun, hended, _, _, rfl, ?_, ⟨_, rfl⟩, hW, hsame.mono (by decide) (by decide)⟩
        · show Steps p.tables e below (s₁.setTop (mkF m 17 #[.val (.int p1), .val (.int p2), .val (.int p3)] [(.int (1 : Int32))])) _
          exact retN X0 hx (t := .boolean) Bd.returns (by simp) (hb hby d26_17) hr
        · show Qrm26 Z p1 p2 p3 h0 n0 _ s₁.heap _
          rw [e0]
          exact ⟨(by simp only [frm26, if_pos hc1_385, if_neg hc5_386, if_neg hc9_387]), N0, rfl⟩
  · refine own_go (B := s₁.setTop (mkF m 18 #[.val (.int p1), .val (.int p2), .val (.int p3)] [])) (fun t k => ?_) ?_
    · refine XS.ifYes X0.here hx rfl (pc0 := 1) (pc' := 18) rfl (hb hby d26_1) rfl ((if0 _ _).trans (feq hc1_385).2) (by decide) (by decide) ?_
      exact k
    refine own_go (B := s₁.setTop (mkF m 20 #[.val (.int p1), .val (.int p2), .val (.int p3)] [(.int (1 : Int32)), (.int p1)])) (fun t k => ?_) ?_
    · refine XS.iloadN X0.here hx rfl (hb hby d26_18) rfl ?_
      refine XS.iconst X0.here hx rfl (hb hby d26_19) ?_
      exact k
    by_cases hc20_388 : p1 = (1 : Int32)
    · refine own_go (B := s₁.setTop (mkF m 23 #[.val (.int p1), .val (.int p2), .val (.int p3)] [])) (fun t k => ?_) ?_
      · refine XS.icmpNo X0.here hx rfl (hb hby d26_20) rfl (teq hc20_388).2 ?_
        exact k
      refine own_go (B := s₁.setTop (mkF m 24 #[.val (.int p1), .val (.int p2), .val (.int p3)] [(.int p2)])) (fun t k => ?_) ?_
      · refine XS.iloadN X0.here hx rfl (hb hby d26_23) rfl ?_
        exact k
      by_cases hc24_389 : p2 = (0 : Int32)
      · refine own_go (B := s₁.setTop (mkF m 27 #[.val (.int p1), .val (.int p2), .val (.int p3)] [])) (fun t k => ?_) ?_
        · refine XS.ifNo X0.here hx rfl (hb hby d26_24) rfl ((if0 _ _).trans (teq hc24_389).2) ?_
          exact k
        refine own_go (B := s₁.setTop (mkF m 28 #[.val (.int p1), .val (.int p2), .val (.int p3)] [(.int p3)])) (fun t k => ?_) ?_
        · refine XS.iloadN X0.here hx rfl (hb hby d26_27) rfl ?_
          exact k
        by_cases hc28_390 : p3 = (0 : Int32)
        · refine own_go (B := s₁.setTop (mkF m 35 #[.val (.int p1), .val (.int p2), .val (.int p3)] [])) (fun t k => ?_) ?_
          · refine XS.ifYes X0.here hx rfl (pc0 := 28) (pc' := 35) rfl (hb hby d26_28) rfl ((if0 _ _).trans (teq hc28_390).1) (by decide) (by decide) ?_
            exact k
          refine own_go (B := s₁.setTop (mkF m 36 #[.val (.int p1), .val (.int p2), .val (.int p3)] [(.int (0 : Int32))])) (fun t k => ?_) ?_
          · refine XS.iconst X0.here hx rfl (hb hby d26_35) ?_
            exact k
          obtain ⟨fs, hr, hrun, hended, hW, hsame⟩ := X0.leave (v := some (.int (0 : Int32))) (fun h => by rw [Bd.returns] at h; cases h)
          refine ⟨_, _, ?_, hrun, hended, _, _, rfl, ?_, ⟨_, rfl⟩, hW, hsame.mono (by decide) (by decide)⟩
          · show Steps p.tables e below (s₁.setTop (mkF m 36 #[.val (.int p1), .val (.int p2), .val (.int p3)] [(.int (0 : Int32))])) _
            exact retN X0 hx (t := .boolean) Bd.returns (by simp) (hb hby d26_36) hr
          · show Qrm26 Z p1 p2 p3 h0 n0 _ s₁.heap _
            rw [e0]
            exact ⟨(by simp only [frm26, if_neg hc1_385, if_pos hc20_388, if_pos hc24_389, if_pos hc28_390]), N0, rfl⟩
        · refine own_go (B := s₁.setTop (mkF m 31 #[.val (.int p1), .val (.int p2), .val (.int p3)] [])) (fun t k => ?_) ?_
          · refine XS.ifNo X0.here hx rfl (hb hby d26_28) rfl ((if0 _ _).trans (feq hc28_390).1) ?_
            exact k
          refine own_go (B := s₁.setTop (mkF m 36 #[.val (.int p1), .val (.int p2), .val (.int p3)] [(.int (1 : Int32))])) (fun t k => ?_) ?_
          · refine XS.iconst X0.here hx rfl (hb hby d26_31) ?_
            refine XS.goto X0.here hx rfl (pc0 := 32) (pc' := 36) rfl (hb hby d26_32) (by decide) (by decide) ?_
            exact k
          obtain ⟨fs, hr, hrun, hended, hW, hsame⟩ := X0.leave (v := some (.int (1 : Int32))) (fun h => by rw [Bd.returns] at h; cases h)
          refine ⟨_, _, ?_, hrun, hended, _, _, rfl, ?_, ⟨_, rfl⟩, hW, hsame.mono (by decide) (by decide)⟩
          · show Steps p.tables e below (s₁.setTop (mkF m 36 #[.val (.int p1), .val (.int p2), .val (.int p3)] [(.int (1 : Int32))])) _
            exact retN X0 hx (t := .boolean) Bd.returns (by simp) (hb hby d26_36) hr
          · show Qrm26 Z p1 p2 p3 h0 n0 _ s₁.heap _
            rw [e0]
            exact ⟨(by simp only [frm26, if_neg hc1_385, if_pos hc20_388, if_pos hc24_389, if_neg hc28_390]), N0, rfl⟩
      · refine own_go (B := s₁.setTop (mkF m 31 #[.val (.int p1), .val (.int p2), .val (.int p3)] [])) (fun t k => ?_) ?_
        · refine XS.ifYes X0.here hx rfl (pc0 := 24) (pc' := 31) rfl (hb hby d26_24) rfl ((if0 _ _).trans (feq hc24_389).2) (by decide) (by decide) ?_
          exact k
        refine own_go (B := s₁.setTop (mkF m 36 #[.val (.int p1), .val (.int p2), .val (.int p3)] [(.int (1 : Int32))])) (fun t k => ?_) ?_
        · refine XS.iconst X0.here hx rfl (hb hby d26_31) ?_
          refine XS.goto X0.here hx rfl (pc0 := 32) (pc' := 36) rfl (hb hby d26_32) (by decide) (by decide) ?_
          exact k
        obtain ⟨fs, hr, hrun, hended, hW, hsame⟩ := X0.leave (v := some (.int (1 : Int32))) (fun h => by rw [Bd.returns] at h; cases h)
        refine ⟨_, _, ?_, hrun, hended, _, _, rfl, ?_, ⟨_, rfl⟩, hW, hsame.mono (by decide) (by decide)⟩
        · show Steps p.tables e below (s₁.setTop (mkF m 36 #[.val (.int p1), .val (.int p2), .val (.int p3)] [(.int (1 : Int32))])) _
          exact retN X0 hx (t := .boolean) Bd.returns (by simp) (hb hby d26_36) hr
        · show Qrm26 Z p1 p2 p3 h0 n0 _ s₁.heap _
          rw [e0]
          exact ⟨(by simp only [frm26, if_neg hc1_385, if_pos hc20_388, if_neg hc24_389]), N0, rfl⟩
    · refine own_go (B := s₁.setTop (mkF m 37 #[.val (.int p1), .val (.int p2), .val (.int p3)] [])) (fun t k => ?_) ?_
      · refine XS.icmpYes X0.here hx rfl (pc0 := 20) (pc' := 37) rfl (hb hby d26_20) rfl (feq hc20_388).2 (by decide) (by decide) ?_
        exact k
      refine own_go (B := s₁.setTop (mkF m 39 #[.val (.int p1), .val (.int p2), .val (.int p3)] [(.int (2 : Int32)), (.int p1)])) (fun t k => ?_) ?_
      · refine XS.iloadN X0.here hx rfl (hb hby d26_37) rfl ?_
        refine XS.iconst X0.here hx rfl (hb hby d26_38) ?_
        exact k
      by_cases hc39_391 : p1 = (2 : Int32)
      · refine own_go (B := s₁.setTop (mkF m 42 #[.val (.int p1), .val (.int p2), .val (.int p3)] [])) (fun t k => ?_) ?_
        · refine XS.icmpNo X0.here hx rfl (hb hby d26_39) rfl (teq hc39_391).2 ?_
          exact k
        refine own_go (B := s₁.setTop (mkF m 43 #[.val (.int p1), .val (.int p2), .val (.int p3)] [(.int p2)])) (fun t k => ?_) ?_
        · refine XS.iloadN X0.here hx rfl (hb hby d26_42) rfl ?_
          exact k
        by_cases hc43_392 : p2 = (0 : Int32)
        · refine own_go (B := s₁.setTop (mkF m 54 #[.val (.int p1), .val (.int p2), .val (.int p3)] [])) (fun t k => ?_) ?_
          · refine XS.ifYes X0.here hx rfl (pc0 := 43) (pc' := 54) rfl (hb hby d26_43) rfl ((if0 _ _).trans (teq hc43_392).1) (by decide) (by decide) ?_
            exact k
          refine own_go (B := s₁.setTop (mkF m 55 #[.val (.int p1), .val (.int p2), .val (.int p3)] [(.int (0 : Int32))])) (fun t k => ?_) ?_
          · refine XS.iconst X0.here hx rfl (hb hby d26_54) ?_
            exact k
          obtain ⟨fs, hr, hrun, hended, hW, hsame⟩ := X0.leave (v := some (.int (0 : Int32))) (fun h => by rw [Bd.returns] at h; cases h)
          refine ⟨_, _, ?_, hrun, hended, _, _, rfl, ?_, ⟨_, rfl⟩, hW, hsame.mono (by decide) (by decide)⟩
          · show Steps p.tables e below (s₁.setTop (mkF m 55 #[.val (.int p1), .val (.int p2), .val (.int p3)] [(.int (0 : Int32))])) _
            exact retN X0 hx (t := .boolean) Bd.returns (by simp) (hb hby d26_55) hr
          · show Qrm26 Z p1 p2 p3 h0 n0 _ s₁.heap _
            rw [e0]
            exact ⟨(by simp only [frm26, if_neg hc1_385, if_neg hc20_388, if_pos hc39_391, if_pos hc43_392]), N0, rfl⟩
        · refine own_go (B := s₁.setTop (mkF m 46 #[.val (.int p1), .val (.int p2), .val (.int p3)] [])) (fun t k => ?_) ?_
          · refine XS.ifNo X0.here hx rfl (hb hby d26_43) rfl ((if0 _ _).trans (feq hc43_392).1) ?_
            exact k
          refine own_go (B := s₁.setTop (mkF m 47 #[.val (.int p1), .val (.int p2), .val (.int p3)] [(.int p3)])) (fun t k => ?_) ?_
          · refine XS.iloadN X0.here hx rfl (hb hby d26_46) rfl ?_
            exact k
          by_cases hc47_393 : p3 = (0 : Int32)
          · refine own_go (B := s₁.setTop (mkF m 50 #[.val (.int p1), .val (.int p2), .val (.int p3)] [])) (fun t k => ?_) ?_
            · refine XS.ifNo X0.here hx rfl (hb hby d26_47) rfl ((if0 _ _).trans (teq hc47_393).2) ?_
              exact k
            refine own_go (B := s₁.setTop (mkF m 55 #[.val (.int p1), .val (.int p2), .val (.int p3)] [(.int (1 : Int32))])) (fun t k => ?_) ?_
            · refine XS.iconst X0.here hx rfl (hb hby d26_50) ?_
              refine XS.goto X0.here hx rfl (pc0 := 51) (pc' := 55) rfl (hb hby d26_51) (by decide) (by decide) ?_
              exact k
            obtain ⟨fs, hr, hrun, hended, hW, hsame⟩ := X0.leave (v := some (.int (1 : Int32))) (fun h => by rw [Bd.returns] at h; cases h)
            refine ⟨_, _, ?_, hrun, hended, _, _, rfl, ?_, ⟨_, rfl⟩, hW, hsame.mono (by decide) (by decide)⟩
            · show Steps p.tables e below (s₁.setTop (mkF m 55 #[.val (.int p1), .val (.int p2), .val (.int p3)] [(.int (1 : Int32))])) _
              exact retN X0 hx (t := .boolean) Bd.returns (by simp) (hb hby d26_55) hr
            · show Qrm26 Z p1 p2 p3 h0 n0 _ s₁.heap _
              rw [e0]
              exact ⟨(by simp only [frm26, if_neg hc1_385, if_neg hc20_388, if_pos hc39_391, if_neg hc43_392, if_pos hc47_393]), N0, rfl⟩
          · refine own_go (B := s₁.setTop (mkF m 54 #[.val (.int p1), .val (.int p2), .val (.int p3)] [])) (fun t k => ?_) ?_
            · refine XS.ifYes X0.here hx rfl (pc0 := 47) (pc' := 54) rfl (hb hby d26_47) rfl ((if0 _ _).trans (feq hc47_393).2) (by decide) (by decide) ?_
              exact k
            refine own_go (B := s₁.setTop (mkF m 55 #[.val (.int p1), .val (.int p2), .val (.int p3)] [(.int (0 : Int32))])) (fun t k => ?_) ?_
            · refine XS.iconst X0.here hx rfl (hb hby d26_54) ?_
              exact k
            obtain ⟨fs, hr, hrun, hended, hW, hsame⟩ := X0.leave (v := some (.int (0 : Int32))) (fun h => by rw [Bd.returns] at h; cases h)
            refine ⟨_, _, ?_, hrun, hended, _, _, rfl, ?_, ⟨_, rfl⟩, hW, hsame.mono (by decide) (by decide)⟩
            · show Steps p.tables e below (s₁.setTop (mkF m 55 #[.val (.int p1), .val (.int p2), .val (.int p3)] [(.int (0 : Int32))])) _
              exact retN X0 hx (t := .boolean) Bd.returns (by simp) (hb hby d26_55) hr
            · show Qrm26 Z p1 p2 p3 h0 n0 _ s₁.heap _
              rw [e0]
              exact ⟨(by simp only [frm26, if_neg hc1_385, if_neg hc20_388, if_pos hc39_391, if_neg hc43_392, if_neg hc47_393]), N0, rfl⟩
      · refine own_go (B := s₁.setTop (mkF m 56 #[.val (.int p1), .val (.int p2), .val (.int p3)] [])) (fun t k => ?_) ?_
        · refine XS.icmpYes X0.here hx rfl (pc0 := 39) (pc' := 56) rfl (hb hby d26_39) rfl (feq hc39_391).2 (by decide) (by decide) ?_
          exact k
        refine own_go (B := s₁.setTop (mkF m 58 #[.val (.int p1), .val (.int p2), .val (.int p3)] [(.int p3), (.int p2)])) (fun t k => ?_) ?_
        · refine XS.iloadN X0.here hx rfl (hb hby d26_56) rfl ?_
          refine XS.iloadN X0.here hx rfl (hb hby d26_57) rfl ?_
          exact k
        by_cases hc58_394 : p2 = p3
        · refine own_go (B := s₁.setTop (mkF m 61 #[.val (.int p1), .val (.int p2), .val (.int p3)] [])) (fun t k => ?_) ?_
          · refine XS.icmpNo X0.here hx rfl (hb hby d26_58) rfl (teq hc58_394).2 ?_
            exact k
          refine own_go (B := s₁.setTop (mkF m 66 #[.val (.int p1), .val (.int p2), .val (.int p3)] [(.int (1 : Int32))])) (fun t k => ?_) ?_
          · refine XS.iconst X0.here hx rfl (hb hby d26_61) ?_
            refine XS.goto X0.here hx rfl (pc0 := 62) (pc' := 66) rfl (hb hby d26_62) (by decide) (by decide) ?_
            exact k
          obtain ⟨fs, hr, hrun, hended, hW, hsame⟩ := X0.leave (v := some (.int (1 : Int32))) (fun h => by rw [Bd.returns] at h; cases h)
          refine ⟨_, _, ?_, hrun, hended, _, _, rfl, ?_, ⟨_, rfl⟩, hW, hsame.mono (by decide) (by decide)⟩
          · show Steps p.tables e below (s₁.setTop (mkF m 66 #[.val (.int p1), .val (.int p2), .val (.int p3)] [(.int (1 : Int32))])) _
            exact retN X0 hx (t := .boolean) Bd.returns (by simp) (hb hby d26_66) hr
          · show Qrm26 Z p1 p2 p3 h0 n0 _ s₁.heap _
            rw [e0]
            exact ⟨(by simp only [frm26, if_neg hc1_385, if_neg hc20_388, if_neg hc39_391, if_pos hc58_394]), N0, rfl⟩
        · refine own_go (B := s₁.setTop (mkF m 65 #[.val (.int p1), .val (.int p2), .val (.int p3)] [])) (fun t k => ?_) ?_
          · refine XS.icmpYes X0.here hx rfl (pc0 := 58) (pc' := 65) rfl (hb hby d26_58) rfl (feq hc58_394).2 (by decide) (by decide) ?_
            exact k
          refine own_go (B := s₁.setTop (mkF m 66 #[.val (.int p1), .val (.int p2), .val (.int p3)] [(.int (0 : Int32))])) (fun t k => ?_) ?_
          · refine XS.iconst X0.here hx rfl (hb hby d26_65) ?_
            exact k
          obtain ⟨fs, hr, hrun, hended, hW, hsame⟩ := X0.leave (v := some (.int (0 : Int32))) (fun h => by rw [Bd.returns] at h; cases h)
          refine ⟨_, _, ?_, hrun, hended, _, _, rfl, ?_, ⟨_, rfl⟩, hW, hsame.mono (by decide) (by decide)⟩
          · show Steps p.tables e below (s₁.setTop (mkF m 66 #[.val (.int p1), .val (.int p2), .val (.int p3)] [(.int (0 : Int32))])) _
            exact retN X0 hx (t := .boolean) Bd.returns (by simp) (hb hby d26_66) hr
          · show Qrm26 Z p1 p2 p3 h0 n0 _ s₁.heap _
            rw [e0]
            exact ⟨(by simp only [frm26, if_neg hc1_385, if_neg hc20_388, if_neg hc39_391, if_neg hc58_394]), N0, rfl⟩
def Qrm27 (Z : State) (a1 : Addr) (p2 : Int32) (a3 : Addr) (b1 : Addr) (k1 : ClassId) (ns : List Int32) (bs : List Int32) (cs : List Int32) (n : Nat) (k4 : ClassId) (rs : List Int32) (h0 : Heap) (n0 : Nat) (v : Option Value) (h : Heap) (L : List Loc) : Prop := v = some (.int (if own_val ns (own_rho rs) p2.toInt.toNat then (1 : Int32) else (0 : Int32))) ∧ Fr n0 L ∧ h = h0
theorem efrm27 (m : MethodId) (x0 : Addr) (x1 : Int32) (x2 : Addr) : entryFrame m #[(.ref x0), (.int x1), (.ref x2)] 4 = mkF m 0 #[.val (.ref x0), .val (.int x1), .val (.ref x2), .unset] [] := by first | (simp [entryFrame, mkF, argsToLocals, Value.category]; done) | rfl
set_option maxRecDepth 65536 in
set_option maxHeartbeats 40000000 in
theorem rm27 (l : Launch) (Z : State) (a0 : Array Value) (hw : ∀ d ∈ tables_1, d.before a0 Z = true) (ws : List Jvm.Cond) (a1 : Addr) (p2 : Int32) (a3 : Addr) (b1 : Addr) (k1 : ClassId) (ns : List Int32) (bs : List Int32) (cs : List Int32) (n : Nat) (k4 : ClassId) (rs : List Int32) (h0 : Heap) (n0 : Nat) (Z0 : n0 ≤ h0.size) (P0 : Exa Z h0 a1 OB) (P1 : Fld Z h0 a1 OB "nodes" "[I" (.ref b1)) (P2 : Arv Z h0 b1 k1 .int (256 : Int32) (own_I ns) (.int (0 : Int32))) (P3 : Arv Z h0 a3 k4 .boolean (3 : Int32) (own_I rs) (.int (0 : Int32))) (qI : own_Inv ns bs cs n) (qa : 0 ≤ p2.toInt ∧ p2.toInt < n) :
    MetFree l (⟨OB, "evaluate", "(I[Z)Z"⟩ : MethodName) (head1 (Jvm.Cond.code (⟨OB, "evaluate", "(I[Z)Z"⟩ : MethodName) prog_103_method_14_code 4 (some .boolean) :: ws) ({ frames := 1, cells := 0, slots := 0, locals := 14 } : Room)) (fun a U => a = #[(.ref a1), (.int p2), (.ref a3)] ∧ Z.Warmed39 U.vm ∧ U.heap = h0) (fun _ _ _ _ _ => True) (fun _ U o U' => ∃ v L, o = .returned v ∧ Qrm27 Z a1 p2 a3 b1 k1 ns bs cs n k4 rs h0 n0 v U'.heap L ∧ FrameEnd U o U' L ({ frames := 1, cells := 0, slots := 0, locals := 14 } : Room).cells ({ frames := 1, cells := 0, slots := 0, locals := 14 } : Room).slots) := by
  refine MetFree.of_bodySF (plainFor_of_name pn_0) hisR ?_
  intro p e s m args below meth c s₁ Bd hml0 hP hK
  obtain ⟨rfl, hZ, hh⟩ := hP
  have hx := Bd.exec
  have hby := Bd.bytes
  have hml : c.maxLocals = 4 := hml0
  have hown : s.vm.findClass OB = some m.cls := findClass_of_methodNamed Bd.named
  have hnm := (name_of_methodNamed Bd.named Bd.method).1
  have X0 : Stand p l e ({ frames := 1, cells := 0, slots := 0, locals := 14 } : Room) s m #[(.ref a1), (.int p2), (.ref a3)] below meth c s₁ [] 0 0 := Stand.of_body Bd
  have e0 : s₁.heap = h0 := by rw [← hh, Bd.state]; rfl
  have N0 := Fr.nil n0
  have K0 : Keep h0 h0 [] := Keep.refl h0 _
  refine own_go (B := s₁.setTop (mkF m 0 #[.val (.ref a1), .val (.int p2), .val (.ref a3), .unset] [])) (fun t k => castTop (efrm27 m a1 p2 a3) k) ?_
  refine own_go (B := s₁.setTop (mkF m 2 #[.val (.ref a1), .val (.int p2), .val (.ref a3), .val (.int p2)] [])) (fun t k => ?_) ?_
  · refine XS.iloadN X0.here hx rfl (hb hby d27_0) rfl ?_
    refine XS.istoreN X0.here hx rfl (hb hby d27_1) rfl (l' := #[.val (.ref a1), .val (.int p2), .val (.ref a3), .val (.int p2)]) rfl ?_
    exact k
  have loop395 : ∀ (N : Nat) (x3 : Int32) (Tq395 : State) (Lq395 : List Loc), x3.toInt.toNat < N → ((0 ≤ x3.toInt ∧ x3.toInt < n) ∧ own_val ns (own_rho rs) x3.toInt.toNat = own_val ns (own_rho rs) p2.toInt.toNat) → Stand p l e ({ frames := 1, cells := 0, slots := 0, locals := 14 } : Room) s m #[(.ref a1), (.int p2), (.ref a3)] below meth c Tq395 Lq395 0 0 → Tq395.heap = h0 → Fr n0 Lq395 → ∃ s₂ o, Steps p.tables e below (Tq395.setTop (mkF m 2 #[.val (.ref a1), .val (.int p2), .val (.ref a3), .val (.int x3)] [])) s₂ ∧ s₂.status = .running ∧ Ended s₂ below o ∧ ∃ v L, o = .returned v ∧ Qrm27 Z a1 p2 a3 b1 k1 ns bs cs n k4 rs h0 n0 v s₂.heap L ∧ FrameEnd s o s₂ L ({ frames := 1, cells := 0, slots := 0, locals := 14 } : Room).cells ({ frames := 1, cells := 0, slots := 0, locals := 14 } : Room).slots := by
    intro N
    induction N with
    | zero => intro x3 Tq395 Lq395 hmu; exact absurd hmu (Nat.not_lt_zero _)
    | succ N ih =>
      intro x3 Tq395 Lq395 hmu qx Xq395 eq395 Nq395 
      refine own_go (B := Tq395.setTop (mkF m 4 #[.val (.ref a1), .val (.int p2), .val (.ref a3), .val (.int x3)] [(.int (1 : Int32)), (.int x3)])) (fun t k => ?_) ?_
      · refine XS.iloadN Xq395.here hx rfl (hb hby d27_2) rfl ?_
        refine XS.iconst Xq395.here hx rfl (hb hby d27_3) ?_
        exact k
      by_cases hc4_396 : (1 : Int32) < x3
      · refine own_go (B := Tq395.setTop (mkF m 7 #[.val (.ref a1), .val (.int p2), .val (.ref a3), .val (.int x3)] [])) (fun t k => ?_) ?_
        · refine XS.icmpNo Xq395.here hx rfl (hb hby d27_4) rfl (tlt hc4_396).2.2.2 ?_
          exact k
        have q2 : 2 ≤ x3.toInt := own_one hc4_396
        have qge : 0 ≤ x3.toInt := by omega
        refine own_go (B := Tq395.setTop (mkF m 10 #[.val (.ref a1), .val (.int p2), .val (.ref a3), .val (.int x3)] [(.int x3), (.ref a1), (.ref a3)])) (fun t k => ?_) ?_
        · refine XS.aloadN Xq395.here hx rfl (hb hby d27_7) rfl rfl ?_
          refine XS.aloadN Xq395.here hx rfl (hb hby d27_8) rfl rfl ?_
          refine XS.iloadN Xq395.here hx rfl (hb hby d27_9) rfl ?_
          exact k
        obtain ⟨cq397, q397, q397'⟩ := P0.cell
        obtain ⟨_, _, ⟨T397, L397, k397, n397⟩, -, X397, ⟨Lc397, hQ397, l397, y397, z397⟩, st397⟩ := Xq395.privateBack hx (y := (⟨OB, "variableOf", "(I)I"⟩ : MethodName)) hown (mvT hZ (own_w hw 102 rfl)) (mvT hZ (own_w hw 103 rfl)) (own_selp (mvT hZ (own_w hw 50 rfl)) rfl (Cond.privateMethod_at (mvP hZ (own_w hw 104 rfl) (args := #[]))) (mvT hZ (own_w hw 103 rfl)) (by decide)) (Cond.privateMethod_at (mvP hZ (own_w hw 104 rfl) (args := #[]))) (mvT hZ (own_w hw 105 rfl)) (by decide) (backOf (W := 1) (rm20 l Z a0 hw [] a1 x3 b1 k1 ns (x3.toInt.toNat) h0 n0 Z0 P1 P2 (own_nn qge) (by have := qI.1.2.2.1; omega)) hZ (own_w hw 105 rfl) (own_w hw 5 rfl) (by decide) (by decide)) (g := (mkF m 10 #[.val (.ref a1), .val (.int p2), .val (.ref a3), .val (.int x3)] [(.int x3), (.ref a1), (.ref a3)])) rfl (by rw [hml]; rfl) (Steps.refl _) (a := a1) (by rw [eq395]; exact q397) q397' (argsL := [(.int x3)]) (rest := [(.ref a3)]) (lenOf pd_2 rfl) rfl (by show 2 * 0 + _ ≤ _; exact Nat.le_of_eq rfl) (hb hby d27_10) (fun _ _ => ⟨rfl, eq395, (by decide : 0 + 0 ≤ _), (by decide : 0 + 0 ≤ _)⟩)
        dsimp only [Pt.U, Pt.locs, Pt.cells, Pt.slots] at X397 l397 y397 z397 st397 hQ397
        subst l397 y397 z397
        obtain ⟨rfl, Nq397, e397⟩ := hQ397
        have N397 := Fr.app Nq395 Nq397
        refine own_go (B := T397.setTop (mkF m 13 #[.val (.ref a1), .val (.int p2), .val (.ref a3), .val (.int x3)] [(.int (ns.getD (4 * (x3.toInt.toNat)) 0)), (.ref a3)])) (fun t k => st397.trans k) ?_
        obtain ⟨cl398, Ar398, q398, S398, M398, Ha398, G398⟩ := id P3
        have hin398 : ¬ ((ns.getD (4 * (x3.toInt.toNat)) 0) < 0 ∨ cl398.slots.size ≤ ((ns.getD (4 * (x3.toInt.toNat)) 0)).toNatClampNeg) := inb_of S398 (own_jb (own_ev_v qI q2 qx.1.2).1 (m := 3) rfl (own_ev_v qI q2 qx.1.2).2)
        refine own_go (X397.baloadBooleans hx (j := (ns.getD (4 * (x3.toInt.toNat)) 0)) (v := (.int (rs.getD ((ns.getD (4 * (x3.toInt.toNat)) 0).toInt.toNat) 0))) (by rw [e397]; exact Ar398.1) (State.isArrayOf_alike hZ.alike Ar398.2.1) Ar398.2.2 hin398 (Has.at Ha398 hin398 (own_getI2 _ (own_jn (own_ev_v qI q2 qx.1.2).1))) (g := (mkF m 13 #[.val (.ref a1), .val (.int p2), .val (.ref a3), .val (.int x3)] [(.int (ns.getD (4 * (x3.toInt.toNat)) 0)), (.ref a3)])) rfl rfl (hb hby d27_13)) ?_
        by_cases hc14_399 : (rs.getD ((ns.getD (4 * (x3.toInt.toNat)) 0).toInt.toNat) 0) = (0 : Int32)
        · refine own_go (B := T397.setTop (mkF m 25 #[.val (.ref a1), .val (.int p2), .val (.ref a3), .val (.int x3)] [])) (fun t k => ?_) ?_
          · refine XS.ifYes X397.here hx rfl (pc0 := 14) (pc' := 25) rfl (hb hby d27_14) rfl ((if0 _ _).trans (teq hc14_399).1) (by decide) (by decide) ?_
            exact k
          refine own_go (B := T397.setTop (mkF m 27 #[.val (.ref a1), .val (.int p2), .val (.ref a3), .val (.int x3)] [(.int x3), (.ref a1)])) (fun t k => ?_) ?_
          · refine XS.aloadN X397.here hx rfl (hb hby d27_25) rfl rfl ?_
            refine XS.iloadN X397.here hx rfl (hb hby d27_26) rfl ?_
            exact k
          obtain ⟨cq400, q400, q400'⟩ := P0.cell
          obtain ⟨_, _, ⟨T400, L400, k400, n400⟩, -, X400, ⟨Lc400, hQ400, l400, y400, z400⟩, st400⟩ := X397.privateBack hx (y := (⟨OB, "low", "(I)I"⟩ : MethodName)) hown (mvT hZ (own_w hw 110 rfl)) (mvT hZ (own_w hw 111 rfl)) (own_selp (mvT hZ (own_w hw 50 rfl)) rfl (Cond.privateMethod_at (mvP hZ (own_w hw 112 rfl) (args := #[]))) (mvT hZ (own_w hw 111 rfl)) (by decide)) (Cond.privateMethod_at (mvP hZ (own_w hw 112 rfl) (args := #[]))) (mvT hZ (own_w hw 113 rfl)) (by decide) (backOf (W := 0) (rm22 l Z a0 hw [] a1 x3 b1 k1 ns (x3.toInt.toNat) h0 n0 Z0 P1 P2 (own_nn qge) (by have := qI.1.2.2.1; omega)) hZ (own_w hw 113 rfl) (own_w hw 5 rfl) (by decide) (by decide)) (g := (mkF m 27 #[.val (.ref a1), .val (.int p2), .val (.ref a3), .val (.int x3)] [(.int x3), (.ref a1)])) rfl (by rw [hml]; rfl) (Steps.refl _) (a := a1) (by rw [e397]; exact q400) q400' (argsL := [(.int x3)]) (rest := []) (lenOf pd_2 rfl) rfl (by show 2 * 0 + _ ≤ _; exact Nat.le_of_eq rfl) (hb hby d27_27) (fun _ _ => ⟨rfl, e397, (by decide : 0 + 0 ≤ _), (by decide : 0 + 0 ≤ _)⟩)
          dsimp only [Pt.U, Pt.locs, Pt.cells, Pt.slots] at X400 l400 y400 z400 st400 hQ400
          subst l400 y400 z400
          obtain ⟨rfl, Nq400, e400⟩ := hQ400
          have N400 := Fr.app N397 Nq400
          refine own_go (B := T400.setTop (mkF m 30 #[.val (.ref a1), .val (.int p2), .val (.ref a3), .val (.int x3)] [(.int (ns.getD (4 * (x3.toInt.toNat) + 1) 0))])) (fun t k => st400.trans k) ?_
          refine own_go (B := T400.setTop (mkF m 2 #[.val (.ref a1), .val (.int p2), .val (.ref a3), .val (.int (ns.getD (4 * (x3.toInt.toNat) + 1) 0))] [])) (fun t k => ?_) ?_
          · refine XS.istoreN X400.here hx rfl (hb hby d27_30) rfl (l' := #[.val (.ref a1), .val (.int p2), .val (.ref a3), .val (.int (ns.getD (4 * (x3.toInt.toNat) + 1) 0))]) rfl ?_
            refine XS.goto X400.here hx rfl (pc0 := 31) (pc' := 2) rfl (hb hby d27_31) (by decide) (by decide) ?_
            exact k
          exact ih ((ns.getD (4 * (x3.toInt.toNat) + 1) 0)) T400 _ (own_mu hmu q2 (own_ev_lo qI q2 qx.1.2 qx.2 hc14_399).1) (⟨⟨(own_ev_lo qI q2 qx.1.2 qx.2 hc14_399).1.1, by have := (own_ev_lo qI q2 qx.1.2 qx.2 hc14_399).1.2; have := qx.1.2; omega⟩, (own_ev_lo qI q2 qx.1.2 qx.2 hc14_399).2⟩) X400 e400 N400 
        · refine own_go (B := T397.setTop (mkF m 17 #[.val (.ref a1), .val (.int p2), .val (.ref a3), .val (.int x3)] [])) (fun t k => ?_) ?_
          · refine XS.ifNo X397.here hx rfl (hb hby d27_14) rfl ((if0 _ _).trans (feq hc14_399).1) ?_
            exact k
          refine own_go (B := T397.setTop (mkF m 19 #[.val (.ref a1), .val (.int p2), .val (.ref a3), .val (.int x3)] [(.int x3), (.ref a1)])) (fun t k => ?_) ?_
          · refine XS.aloadN X397.here hx rfl (hb hby d27_17) rfl rfl ?_
            refine XS.iloadN X397.here hx rfl (hb hby d27_18) rfl ?_
            exact k
          obtain ⟨cq401, q401, q401'⟩ := P0.cell
          obtain ⟨_, _, ⟨T401, L401, k401, n401⟩, -, X401, ⟨Lc401, hQ401, l401, y401, z401⟩, st401⟩ := X397.privateBack hx (y := (⟨OB, "high", "(I)I"⟩ : MethodName)) hown (mvT hZ (own_w hw 114 rfl)) (mvT hZ (own_w hw 115 rfl)) (own_selp (mvT hZ (own_w hw 50 rfl)) rfl (Cond.privateMethod_at (mvP hZ (own_w hw 116 rfl) (args := #[]))) (mvT hZ (own_w hw 115 rfl)) (by decide)) (Cond.privateMethod_at (mvP hZ (own_w hw 116 rfl) (args := #[]))) (mvT hZ (own_w hw 117 rfl)) (by decide) (backOf (W := 0) (rm23 l Z a0 hw [] a1 x3 b1 k1 ns (x3.toInt.toNat) h0 n0 Z0 P1 P2 (own_nn qge) (by have := qI.1.2.2.1; omega)) hZ (own_w hw 117 rfl) (own_w hw 5 rfl) (by decide) (by decide)) (g := (mkF m 19 #[.val (.ref a1), .val (.int p2), .val (.ref a3), .val (.int x3)] [(.int x3), (.ref a1)])) rfl (by rw [hml]; rfl) (Steps.refl _) (a := a1) (by rw [e397]; exact q401) q401' (argsL := [(.int x3)]) (rest := []) (lenOf pd_2 rfl) rfl (by show 2 * 0 + _ ≤ _; exact Nat.le_of_eq rfl) (hb hby d27_19) (fun _ _ => ⟨rfl, e397, (by decide : 0 + 0 ≤ _), (by decide : 0 + 0 ≤ _)⟩)
          dsimp only [Pt.U, Pt.locs, Pt.cells, Pt.slots] at X401 l401 y401 z401 st401 hQ401
          subst l401 y401 z401
          obtain ⟨rfl, Nq401, e401⟩ := hQ401
          have N401 := Fr.app N397 Nq401
          refine own_go (B := T401.setTop (mkF m 22 #[.val (.ref a1), .val (.int p2), .val (.ref a3), .val (.int x3)] [(.int (ns.getD (4 * (x3.toInt.toNat) + 2) 0))])) (fun t k => st401.trans k) ?_
          refine own_go (B := T401.setTop (mkF m 2 #[.val (.ref a1), .val (.int p2), .val (.ref a3), .val (.int (ns.getD (4 * (x3.toInt.toNat) + 2) 0))] [])) (fun t k => ?_) ?_
          · refine XS.goto X401.here hx rfl (pc0 := 22) (pc' := 30) rfl (hb hby d27_22) (by decide) (by decide) ?_
            refine XS.istoreN X401.here hx rfl (hb hby d27_30) rfl (l' := #[.val (.ref a1), .val (.int p2), .val (.ref a3), .val (.int (ns.getD (4 * (x3.toInt.toNat) + 2) 0))]) rfl ?_
            refine XS.goto X401.here hx rfl (pc0 := 31) (pc' := 2) rfl (hb hby d27_31) (by decide) (by decide) ?_
            exact k
          exact ih ((ns.getD (4 * (x3.toInt.toNat) + 2) 0)) T401 _ (own_mu hmu q2 (own_ev_hi qI q2 qx.1.2 qx.2 hc14_399).1) (⟨⟨(own_ev_hi qI q2 qx.1.2 qx.2 hc14_399).1.1, by have := (own_ev_hi qI q2 qx.1.2 qx.2 hc14_399).1.2; have := qx.1.2; omega⟩, (own_ev_hi qI q2 qx.1.2 qx.2 hc14_399).2⟩) X401 e401 N401 
      · refine own_go (B := Tq395.setTop (mkF m 34 #[.val (.ref a1), .val (.int p2), .val (.ref a3), .val (.int x3)] [])) (fun t k => ?_) ?_
        · refine XS.icmpYes Xq395.here hx rfl (pc0 := 4) (pc' := 34) rfl (hb hby d27_4) rfl (flt hc4_396).2.2.2 (by decide) (by decide) ?_
          exact k
        refine own_go (B := Tq395.setTop (mkF m 36 #[.val (.ref a1), .val (.int p2), .val (.ref a3), .val (.int x3)] [(.int (1 : Int32)), (.int x3)])) (fun t k => ?_) ?_
        · refine XS.iloadN Xq395.here hx rfl (hb hby d27_34) rfl ?_
          refine XS.iconst Xq395.here hx rfl (hb hby d27_35) ?_
          exact k
        by_cases hc36_402 : x3 = (1 : Int32)
        · refine own_go (B := Tq395.setTop (mkF m 39 #[.val (.ref a1), .val (.int p2), .val (.ref a3), .val (.int x3)] [])) (fun t k => ?_) ?_
          · refine XS.icmpNo Xq395.here hx rfl (hb hby d27_36) rfl (teq hc36_402).2 ?_
            exact k
          refine own_go (B := Tq395.setTop (mkF m 44 #[.val (.ref a1), .val (.int p2), .val (.ref a3), .val (.int x3)] [(.int (1 : Int32))])) (fun t k => ?_) ?_
          · refine XS.iconst Xq395.here hx rfl (hb hby d27_39) ?_
            refine XS.goto Xq395.here hx rfl (pc0 := 40) (pc' := 44) rfl (hb hby d27_40) (by decide) (by decide) ?_
            exact k
          obtain ⟨fs, hr, hrun, hended, hW, hsame⟩ := Xq395.leave (v := some (.int (1 : Int32))) (fun h => by rw [Bd.returns] at h; cases h)
          refine ⟨_, _, ?_, hrun, hended, _, _, rfl, ?_, ⟨_, rfl⟩, hW, hsame.mono (by decide) (by decide)⟩
          · show Steps p.tables e below (Tq395.setTop (mkF m 44 #[.val (.ref a1), .val (.int p2), .val (.ref a3), .val (.int x3)] [(.int (1 : Int32))])) _
            exact retN Xq395 hx (t := .boolean) Bd.returns (by simp) (hb hby d27_44) hr
          · show Qrm27 Z a1 p2 a3 b1 k1 ns bs cs n k4 rs h0 n0 _ Tq395.heap _
            rw [eq395]
            exact ⟨(congrArg (fun z => some (Value.int z)) (own_ev_1 qx.2 hc36_402)), Nq395, rfl⟩
        · refine own_go (B := Tq395.setTop (mkF m 43 #[.val (.ref a1), .val (.int p2), .val (.ref a3), .val (.int x3)] [])) (fun t k => ?_) ?_
          · refine XS.icmpYes Xq395.here hx rfl (pc0 := 36) (pc' := 43) rfl (hb hby d27_36) rfl (feq hc36_402).2 (by decide) (by decide) ?_
            exact k
          refine own_go (B := Tq395.setTop (mkF m 44 #[.val (.ref a1), .val (.int p2), .val (.ref a3), .val (.int x3)] [(.int (0 : Int32))])) (fun t k => ?_) ?_
          · refine XS.iconst Xq395.here hx rfl (hb hby d27_43) ?_
            exact k
          obtain ⟨fs, hr, hrun, hended, hW, hsame⟩ := Xq395.leave (v := some (.int (0 : Int32))) (fun h => by rw [Bd.returns] at h; cases h)
          refine ⟨_, _, ?_, hrun, hended, _, _, rfl, ?_, ⟨_, rfl⟩, hW, hsame.mono (by decide) (by decide)⟩
          · show Steps p.tables e below (Tq395.setTop (mkF m 44 #[.val (.ref a1), .val (.int p2), .val (.ref a3), .val (.int x3)] [(.int (0 : Int32))])) _
            exact retN Xq395 hx (t := .boolean) Bd.returns (by simp) (hb hby d27_44) hr
          · show Qrm27 Z a1 p2 a3 b1 k1 ns bs cs n k4 rs h0 n0 _ Tq395.heap _
            rw [eq395]
            exact ⟨(congrArg (fun z => some (Value.int z)) (own_ev_0 qx.2 qx.1.1 hc4_396 hc36_402)), Nq395, rfl⟩
  exact loop395 _ (p2) s₁ _ (Nat.lt_succ_self _) (⟨qa, rfl⟩) X0 e0 N0 
theorem own_fill_lt {i z : Int32} {j m : Nat} (h : i.toInt = (j : Int)) (hz : z.toInt = (m : Int)) (c : i < z) : j < m := by
  rw [Int32.lt_iff_toInt_lt] at c; omega
theorem own_fill_ge {i z : Int32} {j m : Nat} (h : i.toInt = (j : Int)) (hz : z.toInt = (m : Int)) (c : ¬ i < z) : m ≤ j := by
  rw [Int32.lt_iff_toInt_lt] at c; omega
theorem own_inc {i : Int32} {j : Nat} (h : i.toInt = (j : Int)) (hj : j < 100000) : (i + (1 : Int32)).toInt = ((j + 1 : Nat) : Int) := by
  have a := c_iadd i 1
  have b := rng32 (i + 1)
  have e : (1 : Int32).toInt = 1 := rfl
  rw [e] at a; omega
theorem own_fill_set {ys : List Int32} {j m : Nat} {v : Int32} (hl : ys.length = m) (hj : j < m) (hf : ∀ t, t < j → ys.getD t 0 = v) : ∀ t, t < j + 1 → (ys.set j v).getD t 0 = v := fun t ht => by
  rw [own_getset _ _ _ _ (by omega)]
  by_cases c : t = j
  · rw [if_pos c]
  · rw [if_neg c]; exact hf t (by omega)
theorem own_filled {ys : List Int32} {j m : Nat} {v : Int32} (hl : ys.length = m) (hj : m ≤ j) (hf : ∀ t, t < j → ys.getD t 0 = v) : ys = List.replicate m v := by
  refine List.eq_replicate_iff.mpr ⟨hl, fun b hb => ?_⟩
  obtain ⟨t, ht, rfl⟩ := List.getElem_of_mem hb
  have := hf t (by omega)
  simpa [List.getD_eq_getElem?_getD, List.getElem?_eq_getElem ht] using this
theorem own_rep_get (m : Nat) (v : Int32) (i : Nat) (h : i < m) : (List.replicate m v).getD i 0 = v := by
  simp [List.getD_eq_getElem?_getD, h]
theorem own_inv0 : own_Inv (((List.replicate 256 (0 : Int32)).set 0 (3 : Int32)).set 4 (3 : Int32)) (List.replicate 64 (-1 : Int32)) (List.replicate 4096 (-1 : Int32)) 2 := by
  have z : (-1 : Int32).toInt = -1 := rfl
  have l1 : (List.replicate 256 (0 : Int32)).length = 256 := List.length_replicate
  have l2 : ((List.replicate 256 (0 : Int32)).set 0 (3 : Int32)).length = 256 := by rw [List.length_set]; exact l1
  refine ⟨⟨by rw [List.length_set]; exact l2, by omega, by omega, ?_, ?_, fun i h1 h2 => by omega⟩, ⟨List.length_replicate, fun j hj => ?_⟩, ⟨List.length_replicate, fun e he h => ?_⟩⟩
  · unfold own_vr; rw [own_getset _ _ _ _ (by rw [l2]; omega), if_neg (by omega), own_getset _ _ _ _ (by rw [l1]; omega), if_pos rfl]; rfl
  · unfold own_vr; rw [own_getset _ _ _ _ (by rw [l2]; omega), if_pos rfl]; rfl
  · rw [own_rep_get _ _ _ hj, z]; omega
  · rw [own_rep_get _ _ _ (by omega), z] at h; omega
def Qrm6_64 (Z : State) (a1 : Addr) (k1 : ClassId) (xs : List Int32) (h0 : Heap) (n0 : Nat) (v : Option Value) (h : Heap) (L : List Loc) : Prop := v = none ∧ Fr n0 L ∧ Keep h0 h [a1] ∧ Arv Z h a1 k1 .int (64 : Int32) (own_I (List.replicate 64 (-1 : Int32))) (.int (0 : Int32))
theorem efrm6_64 (m : MethodId) (x0 : Addr) : entryFrame m #[(.ref x0), (.int (-1 : Int32))] 4 = mkF m 0 #[.val (.ref x0), .val (.int (-1 : Int32)), .unset, .unset] [] := by first | (simp [entryFrame, mkF, argsToLocals, Value.category]; done) | rfl
set_option maxRecDepth 65536 in
set_option maxHeartbeats 40000000 in
theorem rm6_64 (l : Launch) (Z : State) (a0 : Array Value) (hw : ∀ d ∈ tables_1, d.before a0 Z = true) (ws : List Jvm.Cond) (a1 : Addr) (k1 : ClassId) (xs : List Int32) (h0 : Heap) (n0 : Nat) (Z0 : n0 ≤ h0.size) (P0 : Arv Z h0 a1 k1 .int (64 : Int32) (own_I xs) (.int (0 : Int32))) (g_a1 : n0 ≤ a1) (qx : xs.length = 64) :
    MetFree l (⟨"java/util/Arrays", "fill", "([II)V"⟩ : MethodName) (head1 (Jvm.Cond.code (⟨"java/util/Arrays", "fill", "([II)V"⟩ : MethodName) jdk_65_method_103_code 4 none :: ws) ({ frames := 0, cells := 0, slots := 0, locals := 0 } : Room)) (fun a U => a = #[(.ref a1), (.int (-1 : Int32))] ∧ Z.Warmed39 U.vm ∧ U.heap = h0) (fun _ _ _ _ _ => True) (fun _ U o U' => ∃ v L, o = .returned v ∧ Qrm6_64 Z a1 k1 xs h0 n0 v U'.heap L ∧ FrameEnd U o U' L ({ frames := 0, cells := 0, slots := 0, locals := 0 } : Room).cells ({ frames := 0, cells := 0, slots := 0, locals := 0 } : Room).slots) := by
  refine MetFree.of_bodySF (plainFor_of_name pn_2) hisR ?_
  intro p e s m args below meth c s₁ Bd hml0 hP hK
  obtain ⟨rfl, hZ, hh⟩ := hP
  have hx := Bd.exec
  have hby := Bd.bytes
  have hml : c.maxLocals = 4 := hml0
  have hown : s.vm.findClass "java/util/Arrays" = some m.cls := findClass_of_methodNamed Bd.named
  have hnm := (name_of_methodNamed Bd.named Bd.method).1
  have X0 : Stand p l e ({ frames := 0, cells := 0, slots := 0, locals := 0 } : Room) s m #[(.ref a1), (.int (-1 : Int32))] below meth c s₁ [] 0 0 := Stand.of_body Bd
  have e0 : s₁.heap = h0 := by rw [← hh, Bd.state]; rfl
  have N0 := Fr.nil n0
  have K0 : Keep h0 h0 [a1] := Keep.refl h0 _
  refine own_go (B := s₁.setTop (mkF m 0 #[.val (.ref a1), .val (.int (-1 : Int32)), .unset, .unset] [])) (fun t k => castTop (efrm6_64 m a1) k) ?_
  refine own_go (B := s₁.setTop (mkF m 3 #[.val (.ref a1), .val (.int (-1 : Int32)), .val (.int (0 : Int32)), .unset] [(.ref a1)])) (fun t k => ?_) ?_
  · refine XS.iconst X0.here hx rfl (hb hby d6_0) ?_
    refine XS.istoreN X0.here hx rfl (hb hby d6_1) rfl (l' := #[.val (.ref a1), .val (.int (-1 : Int32)), .val (.int (0 : Int32)), .unset]) rfl ?_
    refine XS.aloadN X0.here hx rfl (hb hby d6_2) rfl rfl ?_
    exact k
  obtain ⟨cl403, Ar403, q403, S403, M403, Ha403, G403⟩ := id P0
  refine own_go (B := s₁.setTop (mkF m 4 #[.val (.ref a1), .val (.int (-1 : Int32)), .val (.int (0 : Int32)), .unset] [(.int (64 : Int32))])) (fun t k => ?_) ?_
  · refine X0.arraylength hx (by rw [e0]; exact Ar403.1) (State.isArrayOf_alike hZ.alike Ar403.2.1) (g := (mkF m 3 #[.val (.ref a1), .val (.int (-1 : Int32)), .val (.int (0 : Int32)), .unset] [(.ref a1)])) rfl rfl (hb hby d6_3) _ ?_
    rw [len_of S403 M403]
    exact k
  refine own_go (B := s₁.setTop (mkF m 5 #[.val (.ref a1), .val (.int (-1 : Int32)), .val (.int (0 : Int32)), .val (.int (64 : Int32))] [])) (fun t k => ?_) ?_
  · refine XS.istoreN X0.here hx rfl (hb hby d6_4) rfl (l' := #[.val (.ref a1), .val (.int (-1 : Int32)), .val (.int (0 : Int32)), .val (.int (64 : Int32))]) rfl ?_
    exact k
  have loop404 : ∀ (N : Nat) (i2 : Int32) (j : Nat) (ys : List Int32) (Tq404 : State) (Lq404 : List Loc) (hq404 : Heap), (64 - j) < N → i2.toInt = (j : Int) → j ≤ 64 → ys.length = 64 → (∀ t, t < j → ys.getD t 0 = (-1 : Int32)) → Stand p l e ({ frames := 0, cells := 0, slots := 0, locals := 0 } : Room) s m #[(.ref a1), (.int (-1 : Int32))] below meth c Tq404 Lq404 0 0 → Tq404.heap = hq404 → Fr n0 Lq404 → (Arv Z hq404 a1 k1 .int (64 : Int32) (own_I ys) (.int (0 : Int32))) → (n0 ≤ hq404.size) → (Keep h0 hq404 [a1]) → ∃ s₂ o, Steps p.tables e below (Tq404.setTop (mkF m 5 #[.val (.ref a1), .val (.int (-1 : Int32)), .val (.int i2), .val (.int (64 : Int32))] [])) s₂ ∧ s₂.status = .running ∧ Ended s₂ below o ∧ ∃ v L, o = .returned v ∧ Qrm6_64 Z a1 k1 xs h0 n0 v s₂.heap L ∧ FrameEnd s o s₂ L ({ frames := 0, cells := 0, slots := 0, locals := 0 } : Room).cells ({ frames := 0, cells := 0, slots := 0, locals := 0 } : Room).slots := by
    intro N
    induction N with
    | zero => intro i2 j ys Tq404 Lq404 hq404 hmu; exact absurd hmu (Nat.not_lt_zero _)
    | succ N ih =>
      intro i2 j ys Tq404 Lq404 hq404 hmu qj qjl ql qf Xq404 eq404 Nq404 Fq404_0 Zq404 Kq404
      refine own_go (B := Tq404.setTop (mkF m 7 #[.val (.ref a1), .val (.int (-1 : Int32)), .val (.int i2), .val (.int (64 : Int32))] [(.int (64 : Int32)), (.int i2)])) (fun t k => ?_) ?_
      · refine XS.iloadN Xq404.here hx rfl (hb hby d6_5) rfl ?_
        refine XS.iloadN Xq404.here hx rfl (hb hby d6_6) rfl ?_
        exact k
      by_cases hc7_405 : i2 < (64 : Int32)
      · refine own_go (B := Tq404.setTop (mkF m 10 #[.val (.ref a1), .val (.int (-1 : Int32)), .val (.int i2), .val (.int (64 : Int32))] [])) (fun t k => ?_) ?_
        · refine XS.icmpNo Xq404.here hx rfl (hb hby d6_7) rfl (tlt hc7_405).2.1 ?_
          exact k
        have qlt : j < 64 := own_fill_lt qj (m := 64) rfl hc7_405
        refine own_go (B := Tq404.setTop (mkF m 13 #[.val (.ref a1), .val (.int (-1 : Int32)), .val (.int i2), .val (.int (64 : Int32))] [(.int (-1 : Int32)), (.int i2), (.ref a1)])) (fun t k => ?_) ?_
        · refine XS.aloadN Xq404.here hx rfl (hb hby d6_10) rfl rfl ?_
          refine XS.iloadN Xq404.here hx rfl (hb hby d6_11) rfl ?_
          refine XS.iloadN Xq404.here hx rfl (hb hby d6_12) rfl ?_
          exact k
        obtain ⟨cl406, Ar406, q406, S406, M406, Ha406, G406⟩ := Fq404_0
        have hin406 : ¬ (i2 < 0 ∨ cl406.slots.size ≤ (i2).toNatClampNeg) := inb_of S406 (own_jb qj (m := 64) rfl qlt)
        obtain ⟨T406, h406, X406, e406, W406, st406⟩ := stI Xq404 hx hZ eq404 Ar406 (j := i2) hin406 (g := (mkF m 13 #[.val (.ref a1), .val (.int (-1 : Int32)), .val (.int i2), .val (.int (64 : Int32))] [(.int (-1 : Int32)), (.int i2), (.ref a1)])) rfl rfl (hb hby d6_13)
        have U406 : Arv Z h406 a1 k1 .int (64 : Int32) (own_I (ys.set (j) (-1 : Int32))) (.int (0 : Int32)) := own_arvI (Arv.set Ar406 q406 S406 M406 Ha406 G406 rfl W406 (j) (own_jn qj) (by rw [own_lenI, ql]; exact qlt))
        have Z406 : n0 ≤ h406.size := Nat.le_trans Zq404 (Keep.of_wr W406).1
        have N406 := Fr.snoc X406 Nq404 g_a1
        have K406 := Kq404.wr W406 (Or.inl (List.mem_of_getElem? (i := 0) rfl))
        refine own_go st406 ?_
        refine own_go (B := T406.setTop (mkF m 5 #[.val (.ref a1), .val (.int (-1 : Int32)), .val (.int (i2 + (1 : Int32))), .val (.int (64 : Int32))] [])) (fun t k => ?_) ?_
        · refine XS.iinc X406.here hx rfl (hb hby d6_14) rfl (l' := #[.val (.ref a1), .val (.int (-1 : Int32)), .val (.int (i2 + (1 : Int32))), .val (.int (64 : Int32))]) rfl ?_
          refine XS.goto X406.here hx rfl (pc0 := 17) (pc' := 5) rfl (hb hby d6_17) (by decide) (by decide) ?_
          exact k
        exact ih ((i2 + (1 : Int32))) (j + 1) (ys.set (j) (-1 : Int32)) T406 _ h406 (by omega) (own_inc qj (by omega)) (by omega) (by rw [List.length_set]; exact ql) (own_fill_set ql qlt qf) X406 e406 N406 U406 Z406 K406
      · refine own_go (B := Tq404.setTop (mkF m 20 #[.val (.ref a1), .val (.int (-1 : Int32)), .val (.int i2), .val (.int (64 : Int32))] [])) (fun t k => ?_) ?_
        · refine XS.icmpYes Xq404.here hx rfl (pc0 := 7) (pc' := 20) rfl (hb hby d6_7) rfl (flt hc7_405).2.1 (by decide) (by decide) ?_
          exact k
        have qe := own_filled ql (own_fill_ge qj (m := 64) rfl hc7_405) qf
        rw [qe] at Fq404_0
        obtain ⟨fs, hr, hrun, hended, hW, hsame⟩ := Xq404.leave (v := none) (fun _ => rfl)
        refine ⟨_, _, ?_, hrun, hended, _, _, rfl, ?_, ⟨_, rfl⟩, hW, hsame.mono (by decide) (by decide)⟩
        · show Steps p.tables e below (Tq404.setTop (mkF m 20 #[.val (.ref a1), .val (.int (-1 : Int32)), .val (.int i2), .val (.int (64 : Int32))] [])) _
          exact Xq404.returnOut hx Bd.returns (hb hby d6_20) hr
        · show Qrm6_64 Z a1 k1 xs h0 n0 _ Tq404.heap _
          rw [eq404]
          exact ⟨rfl, Nq404, Kq404, Fq404_0⟩
  exact loop404 _ ((0 : Int32)) (0) (xs) s₁ _ h0 (Nat.lt_succ_self _) (rfl) (Nat.zero_le _) (qx) (fun t h => absurd h (Nat.not_lt_zero _)) X0 e0 N0 P0 Z0 K0
def Qrm6_4096 (Z : State) (a1 : Addr) (k1 : ClassId) (xs : List Int32) (h0 : Heap) (n0 : Nat) (v : Option Value) (h : Heap) (L : List Loc) : Prop := v = none ∧ Fr n0 L ∧ Keep h0 h [a1] ∧ Arv Z h a1 k1 .int (4096 : Int32) (own_I (List.replicate 4096 (-1 : Int32))) (.int (0 : Int32))
theorem efrm6_4096 (m : MethodId) (x0 : Addr) : entryFrame m #[(.ref x0), (.int (-1 : Int32))] 4 = mkF m 0 #[.val (.ref x0), .val (.int (-1 : Int32)), .unset, .unset] [] := by first | (simp [entryFrame, mkF, argsToLocals, Value.category]; done) | rfl
set_option maxRecDepth 65536 in
set_option maxHeartbeats 40000000 in
theorem rm6_4096 (l : Launch) (Z : State) (a0 : Array Value) (hw : ∀ d ∈ tables_1, d.before a0 Z = true) (ws : List Jvm.Cond) (a1 : Addr) (k1 : ClassId) (xs : List Int32) (h0 : Heap) (n0 : Nat) (Z0 : n0 ≤ h0.size) (P0 : Arv Z h0 a1 k1 .int (4096 : Int32) (own_I xs) (.int (0 : Int32))) (g_a1 : n0 ≤ a1) (qx : xs.length = 4096) :
    MetFree l (⟨"java/util/Arrays", "fill", "([II)V"⟩ : MethodName) (head1 (Jvm.Cond.code (⟨"java/util/Arrays", "fill", "([II)V"⟩ : MethodName) jdk_65_method_103_code 4 none :: ws) ({ frames := 0, cells := 0, slots := 0, locals := 0 } : Room)) (fun a U => a = #[(.ref a1), (.int (-1 : Int32))] ∧ Z.Warmed39 U.vm ∧ U.heap = h0) (fun _ _ _ _ _ => True) (fun _ U o U' => ∃ v L, o = .returned v ∧ Qrm6_4096 Z a1 k1 xs h0 n0 v U'.heap L ∧ FrameEnd U o U' L ({ frames := 0, cells := 0, slots := 0, locals := 0 } : Room).cells ({ frames := 0, cells := 0, slots := 0, locals := 0 } : Room).slots) := by
  refine MetFree.of_bodySF (plainFor_of_name pn_2) hisR ?_
  intro p e s m args below meth c s₁ Bd hml0 hP hK
  obtain ⟨rfl, hZ, hh⟩ := hP
  have hx := Bd.exec
  have hby := Bd.bytes
  have hml : c.maxLocals = 4 := hml0
  have hown : s.vm.findClass "java/util/Arrays" = some m.cls := findClass_of_methodNamed Bd.named
  have hnm := (name_of_methodNamed Bd.named Bd.method).1
  have X0 : Stand p l e ({ frames := 0, cells := 0, slots := 0, locals := 0 } : Room) s m #[(.ref a1), (.int (-1 : Int32))] below meth c s₁ [] 0 0 := Stand.of_body Bd
  have e0 : s₁.heap = h0 := by rw [← hh, Bd.state]; rfl
  have N0 := Fr.nil n0
  have K0 : Keep h0 h0 [a1] := Keep.refl h0 _
  refine own_go (B := s₁.setTop (mkF m 0 #[.val (.ref a1), .val (.int (-1 : Int32)), .unset, .unset] [])) (fun t k => castTop (efrm6_4096 m a1) k) ?_
  refine own_go (B := s₁.setTop (mkF m 3 #[.val (.ref a1), .val (.int (-1 : Int32)), .val (.int (0 : Int32)), .unset] [(.ref a1)])) (fun t k => ?_) ?_
  · refine XS.iconst X0.here hx rfl (hb hby d6_0) ?_
    refine XS.istoreN X0.here hx rfl (hb hby d6_1) rfl (l' := #[.val (.ref a1), .val (.int (-1 : Int32)), .val (.int (0 : Int32)), .unset]) rfl ?_
    refine XS.aloadN X0.here hx rfl (hb hby d6_2) rfl rfl ?_
    exact k
  obtain ⟨cl407, Ar407, q407, S407, M407, Ha407, G407⟩ := id P0
  refine own_go (B := s₁.setTop (mkF m 4 #[.val (.ref a1), .val (.int (-1 : Int32)), .val (.int (0 : Int32)), .unset] [(.int (4096 : Int32))])) (fun t k => ?_) ?_
  · refine X0.arraylength hx (by rw [e0]; exact Ar407.1) (State.isArrayOf_alike hZ.alike Ar407.2.1) (g := (mkF m 3 #[.val (.ref a1), .val (.int (-1 : Int32)), .val (.int (0 : Int32)), .unset] [(.ref a1)])) rfl rfl (hb hby d6_3) _ ?_
    rw [len_of S407 M407]
    exact k
  refine own_go (B := s₁.setTop (mkF m 5 #[.val (.ref a1), .val (.int (-1 : Int32)), .val (.int (0 : Int32)), .val (.int (4096 : Int32))] [])) (fun t k => ?_) ?_
  · refine XS.istoreN X0.here hx rfl (hb hby d6_4) rfl (l' := #[.val (.ref a1), .val (.int (-1 : Int32)), .val (.int (0 : Int32)), .val (.int (4096 : Int32))]) rfl ?_
    exact k
  have loop408 : ∀ (N : Nat) (i2 : Int32) (j : Nat) (ys : List Int32) (Tq408 : State) (Lq408 : List Loc) (hq408 : Heap), (4096 - j) < N → i2.toInt = (j : Int) → j ≤ 4096 → ys.length = 4096 → (∀ t, t < j → ys.getD t 0 = (-1 : Int32)) → Stand p l e ({ frames := 0, cells := 0, slots := 0, locals := 0 } : Room) s m #[(.ref a1), (.int (-1 : Int32))] below meth c Tq408 Lq408 0 0 → Tq408.heap = hq408 → Fr n0 Lq408 → (Arv Z hq408 a1 k1 .int (4096 : Int32) (own_I ys) (.int (0 : Int32))) → (n0 ≤ hq408.size) → (Keep h0 hq408 [a1]) → ∃ s₂ o, Steps p.tables e below (Tq408.setTop (mkF m 5 #[.val (.ref a1), .val (.int (-1 : Int32)), .val (.int i2), .val (.int (4096 : Int32))] [])) s₂ ∧ s₂.status = .running ∧ Ended s₂ below o ∧ ∃ v L, o = .returned v ∧ Qrm6_4096 Z a1 k1 xs h0 n0 v s₂.heap L ∧ FrameEnd s o s₂ L ({ frames := 0, cells := 0, slots := 0, locals := 0 } : Room).cells ({ frames := 0, cells := 0, slots := 0, locals := 0 } : Room).slots := by
    intro N
    induction N with
    | zero => intro i2 j ys Tq408 Lq408 hq408 hmu; exact absurd hmu (Nat.not_lt_zero _)
    | succ N ih =>
      intro i2 j ys Tq408 Lq408 hq408 hmu qj qjl ql qf Xq408 eq408 Nq408 Fq408_0 Zq408 Kq408
      refine own_go (B := Tq408.setTop (mkF m 7 #[.val (.ref a1), .val (.int (-1 : Int32)), .val (.int i2), .val (.int (4096 : Int32))] [(.int (4096 : Int32)), (.int i2)])) (fun t k => ?_) ?_
      · refine XS.iloadN Xq408.here hx rfl (hb hby d6_5) rfl ?_
        refine XS.iloadN Xq408.here hx rfl (hb hby d6_6) rfl ?_
        exact k
      by_cases hc7_409 : i2 < (4096 : Int32)
      · refine own_go (B := Tq408.setTop (mkF m 10 #[.val (.ref a1), .val (.int (-1 : Int32)), .val (.int i2), .val (.int (4096 : Int32))] [])) (fun t k => ?_) ?_
        · refine XS.icmpNo Xq408.here hx rfl (hb hby d6_7) rfl (tlt hc7_409).2.1 ?_
          exact k
        have qlt : j < 4096 := own_fill_lt qj (m := 4096) rfl hc7_409
        refine own_go (B := Tq408.setTop (mkF m 13 #[.val (.ref a1), .val (.int (-1 : Int32)), .val (.int i2), .val (.int (4096 : Int32))] [(.int (-1 : Int32)), (.int i2), (.ref a1)])) (fun t k => ?_) ?_
        · refine XS.aloadN Xq408.here hx rfl (hb hby d6_10) rfl rfl ?_
          refine XS.iloadN Xq408.here hx rfl (hb hby d6_11) rfl ?_
          refine XS.iloadN Xq408.here hx rfl (hb hby d6_12) rfl ?_
          exact k
        obtain ⟨cl410, Ar410, q410, S410, M410, Ha410, G410⟩ := Fq408_0
        have hin410 : ¬ (i2 < 0 ∨ cl410.slots.size ≤ (i2).toNatClampNeg) := inb_of S410 (own_jb qj (m := 4096) rfl qlt)
        obtain ⟨T410, h410, X410, e410, W410, st410⟩ := stI Xq408 hx hZ eq408 Ar410 (j := i2) hin410 (g := (mkF m 13 #[.val (.ref a1), .val (.int (-1 : Int32)), .val (.int i2), .val (.int (4096 : Int32))] [(.int (-1 : Int32)), (.int i2), (.ref a1)])) rfl rfl (hb hby d6_13)
        have U410 : Arv Z h410 a1 k1 .int (4096 : Int32) (own_I (ys.set (j) (-1 : Int32))) (.int (0 : Int32)) := own_arvI (Arv.set Ar410 q410 S410 M410 Ha410 G410 rfl W410 (j) (own_jn qj) (by rw [own_lenI, ql]; exact qlt))
        have Z410 : n0 ≤ h410.size := Nat.le_trans Zq408 (Keep.of_wr W410).1
        have N410 := Fr.snoc X410 Nq408 g_a1
        have K410 := Kq408.wr W410 (Or.inl (List.mem_of_getElem? (i := 0) rfl))
        refine own_go st410 ?_
        refine own_go (B := T410.setTop (mkF m 5 #[.val (.ref a1), .val (.int (-1 : Int32)), .val (.int (i2 + (1 : Int32))), .val (.int (4096 : Int32))] [])) (fun t k => ?_) ?_
        · refine XS.iinc X410.here hx rfl (hb hby d6_14) rfl (l' := #[.val (.ref a1), .val (.int (-1 : Int32)), .val (.int (i2 + (1 : Int32))), .val (.int (4096 : Int32))]) rfl ?_
          refine XS.goto X410.here hx rfl (pc0 := 17) (pc' := 5) rfl (hb hby d6_17) (by decide) (by decide) ?_
          exact k
        exact ih ((i2 + (1 : Int32))) (j + 1) (ys.set (j) (-1 : Int32)) T410 _ h410 (by omega) (own_inc qj (by omega)) (by omega) (by rw [List.length_set]; exact ql) (own_fill_set ql qlt qf) X410 e410 N410 U410 Z410 K410
      · refine own_go (B := Tq408.setTop (mkF m 20 #[.val (.ref a1), .val (.int (-1 : Int32)), .val (.int i2), .val (.int (4096 : Int32))] [])) (fun t k => ?_) ?_
        · refine XS.icmpYes Xq408.here hx rfl (pc0 := 7) (pc' := 20) rfl (hb hby d6_7) rfl (flt hc7_409).2.1 (by decide) (by decide) ?_
          exact k
        have qe := own_filled ql (own_fill_ge qj (m := 4096) rfl hc7_409) qf
        rw [qe] at Fq408_0
        obtain ⟨fs, hr, hrun, hended, hW, hsame⟩ := Xq408.leave (v := none) (fun _ => rfl)
        refine ⟨_, _, ?_, hrun, hended, _, _, rfl, ?_, ⟨_, rfl⟩, hW, hsame.mono (by decide) (by decide)⟩
        · show Steps p.tables e below (Tq408.setTop (mkF m 20 #[.val (.ref a1), .val (.int (-1 : Int32)), .val (.int i2), .val (.int (4096 : Int32))] [])) _
          exact Xq408.returnOut hx Bd.returns (hb hby d6_20) hr
        · show Qrm6_4096 Z a1 k1 xs h0 n0 _ Tq408.heap _
          rw [eq408]
          exact ⟨rfl, Nq408, Kq408, Fq408_0⟩
  exact loop408 _ ((0 : Int32)) (0) (xs) s₁ _ h0 (Nat.lt_succ_self _) (rfl) (Nat.zero_le _) (qx) (fun t h => absurd h (Nat.not_lt_zero _)) X0 e0 N0 P0 Z0 K0
def Qrm3a (Z : State)  (h0 : Heap) (n0 : Nat) (v : Option Value) (h : Heap) (L : List Loc) : Prop := v = some (.int (64 : Int32)) ∧ Fr n0 L ∧ h = h0
theorem efrm3a (m : MethodId)  : entryFrame m #[(.int (64 : Int32)), (.int (536870909 : Int32))] 2 = mkF m 0 #[.val (.int (64 : Int32)), .val (.int (536870909 : Int32))] [] := by first | (simp [entryFrame, mkF, argsToLocals, Value.category]; done) | rfl
set_option maxRecDepth 65536 in
set_option maxHeartbeats 40000000 in
theorem rm3a (l : Launch) (Z : State) (a0 : Array Value) (hw : ∀ d ∈ tables_1, d.before a0 Z = true) (ws : List Jvm.Cond)  (h0 : Heap) (n0 : Nat) (Z0 : n0 ≤ h0.size)  :
    MetFree l (⟨"java/lang/Math", "min", "(II)I"⟩ : MethodName) (head1 (Jvm.Cond.code (⟨"java/lang/Math", "min", "(II)I"⟩ : MethodName) jdk_29_method_69_code 2 (some .int) :: ws) ({ frames := 0, cells := 0, slots := 0, locals := 0 } : Room)) (fun a U => a = #[(.int (64 : Int32)), (.int (536870909 : Int32))] ∧ Z.Warmed39 U.vm ∧ U.heap = h0) (fun _ _ _ _ _ => True) (fun _ U o U' => ∃ v L, o = .returned v ∧ Qrm3a Z  h0 n0 v U'.heap L ∧ FrameEnd U o U' L ({ frames := 0, cells := 0, slots := 0, locals := 0 } : Room).cells ({ frames := 0, cells := 0, slots := 0, locals := 0 } : Room).slots) := by
  refine MetFree.of_bodySF (Jvm.Free.JP.mathPlain rfl (by decide +kernel)) hisR ?_
  intro p e s m args below meth c s₁ Bd hml0 hP hK
  obtain ⟨rfl, hZ, hh⟩ := hP
  have hx := Bd.exec
  have hby := Bd.bytes
  have hml : c.maxLocals = 2 := hml0
  have hown : s.vm.findClass "java/lang/Math" = some m.cls := findClass_of_methodNamed Bd.named
  have hnm := (name_of_methodNamed Bd.named Bd.method).1
  have X0 : Stand p l e ({ frames := 0, cells := 0, slots := 0, locals := 0 } : Room) s m #[(.int (64 : Int32)), (.int (536870909 : Int32))] below meth c s₁ [] 0 0 := Stand.of_body Bd
  have e0 : s₁.heap = h0 := by rw [← hh, Bd.state]; rfl
  have N0 := Fr.nil n0
  have K0 : Keep h0 h0 [] := Keep.refl h0 _
  refine own_go (B := s₁.setTop (mkF m 0 #[.val (.int (64 : Int32)), .val (.int (536870909 : Int32))] [])) (fun t k => castTop (efrm3a m ) k) ?_
  refine own_go (B := s₁.setTop (mkF m 10 #[.val (.int (64 : Int32)), .val (.int (536870909 : Int32))] [(.int (64 : Int32))])) (fun t k => ?_) ?_
  · refine XS.iloadN X0.here hx rfl (hb hby d3_0) rfl ?_
    refine XS.iloadN X0.here hx rfl (hb hby d3_1) rfl ?_
    refine XS.icmpNo X0.here hx rfl (hb hby d3_2) rfl (flt (by decide : ¬ ((536870909 : Int32) < (64 : Int32)))).2.2.1 ?_
    refine XS.iloadN X0.here hx rfl (hb hby d3_5) rfl ?_
    refine XS.goto X0.here hx rfl (pc0 := 6) (pc' := 10) rfl (hb hby d3_6) (by decide) (by decide) ?_
    exact k
  obtain ⟨fs, hr, hrun, hended, hW, hsame⟩ := X0.leave (v := some (.int (64 : Int32))) (fun h => by rw [Bd.returns] at h; cases h)
  refine ⟨_, _, ?_, hrun, hended, _, _, rfl, ?_, ⟨_, rfl⟩, hW, hsame.mono (by decide) (by decide)⟩
  · show Steps p.tables e below (s₁.setTop (mkF m 10 #[.val (.int (64 : Int32)), .val (.int (536870909 : Int32))] [(.int (64 : Int32))])) _
    exact retOut X0 hx Bd.returns rfl (Or.inl ⟨rfl, Or.inl rfl, _, rfl⟩) (hb hby d3_10) hr
  · show Qrm3a Z  h0 n0 _ s₁.heap _
    rw [e0]
    exact ⟨rfl, N0, rfl⟩
def Qrm3b (Z : State)  (h0 : Heap) (n0 : Nat) (v : Option Value) (h : Heap) (L : List Loc) : Prop := v = some (.int (64 : Int32)) ∧ Fr n0 L ∧ h = h0
theorem efrm3b (m : MethodId)  : entryFrame m #[(.int (1024 : Int32)), (.int (64 : Int32))] 2 = mkF m 0 #[.val (.int (1024 : Int32)), .val (.int (64 : Int32))] [] := by first | (simp [entryFrame, mkF, argsToLocals, Value.category]; done) | rfl
set_option maxRecDepth 65536 in
set_option maxHeartbeats 40000000 in
theorem rm3b (l : Launch) (Z : State) (a0 : Array Value) (hw : ∀ d ∈ tables_1, d.before a0 Z = true) (ws : List Jvm.Cond)  (h0 : Heap) (n0 : Nat) (Z0 : n0 ≤ h0.size)  :
    MetFree l (⟨"java/lang/Math", "min", "(II)I"⟩ : MethodName) (head1 (Jvm.Cond.code (⟨"java/lang/Math", "min", "(II)I"⟩ : MethodName) jdk_29_method_69_code 2 (some .int) :: ws) ({ frames := 0, cells := 0, slots := 0, locals := 0 } : Room)) (fun a U => a = #[(.int (1024 : Int32)), (.int (64 : Int32))] ∧ Z.Warmed39 U.vm ∧ U.heap = h0) (fun _ _ _ _ _ => True) (fun _ U o U' => ∃ v L, o = .returned v ∧ Qrm3b Z  h0 n0 v U'.heap L ∧ FrameEnd U o U' L ({ frames := 0, cells := 0, slots := 0, locals := 0 } : Room).cells ({ frames := 0, cells := 0, slots := 0, locals := 0 } : Room).slots) := by
  refine MetFree.of_bodySF (Jvm.Free.JP.mathPlain rfl (by decide +kernel)) hisR ?_
  intro p e s m args below meth c s₁ Bd hml0 hP hK
  obtain ⟨rfl, hZ, hh⟩ := hP
  have hx := Bd.exec
  have hby := Bd.bytes
  have hml : c.maxLocals = 2 := hml0
  have hown : s.vm.findClass "java/lang/Math" = some m.cls := findClass_of_methodNamed Bd.named
  have hnm := (name_of_methodNamed Bd.named Bd.method).1
  have X0 : Stand p l e ({ frames := 0, cells := 0, slots := 0, locals := 0 } : Room) s m #[(.int (1024 : Int32)), (.int (64 : Int32))] below meth c s₁ [] 0 0 := Stand.of_body Bd
  have e0 : s₁.heap = h0 := by rw [← hh, Bd.state]; rfl
  have N0 := Fr.nil n0
  have K0 : Keep h0 h0 [] := Keep.refl h0 _
  refine own_go (B := s₁.setTop (mkF m 0 #[.val (.int (1024 : Int32)), .val (.int (64 : Int32))] [])) (fun t k => castTop (efrm3b m ) k) ?_
  refine own_go (B := s₁.setTop (mkF m 10 #[.val (.int (1024 : Int32)), .val (.int (64 : Int32))] [(.int (64 : Int32))])) (fun t k => ?_) ?_
  · refine XS.iloadN X0.here hx rfl (hb hby d3_0) rfl ?_
    refine XS.iloadN X0.here hx rfl (hb hby d3_1) rfl ?_
    refine XS.icmpYes X0.here hx rfl (pc0 := 2) (pc' := 9) rfl (hb hby d3_2) rfl (tlt (by decide : ((64 : Int32) < (1024 : Int32)))).2.2.1 (by decide) (by decide) ?_
    refine XS.iloadN X0.here hx rfl (hb hby d3_9) rfl ?_
    exact k
  obtain ⟨fs, hr, hrun, hended, hW, hsame⟩ := X0.leave (v := some (.int (64 : Int32))) (fun h => by rw [Bd.returns] at h; cases h)
  refine ⟨_, _, ?_, hrun, hended, _, _, rfl, ?_, ⟨_, rfl⟩, hW, hsame.mono (by decide) (by decide)⟩
  · show Steps p.tables e below (s₁.setTop (mkF m 10 #[.val (.int (1024 : Int32)), .val (.int (64 : Int32))] [(.int (64 : Int32))])) _
    exact retOut X0 hx Bd.returns rfl (Or.inl ⟨rfl, Or.inl rfl, _, rfl⟩) (hb hby d3_10) hr
  · show Qrm3b Z  h0 n0 _ s₁.heap _
    rw [e0]
    exact ⟨rfl, N0, rfl⟩
def Qrm5 (Z : State)  (h0 : Heap) (n0 : Nat) (v : Option Value) (h : Heap) (L : List Loc) : Prop := v = some (.int (26 : Int32)) ∧ Fr n0 L ∧ h = h0
theorem efrm5 (m : MethodId)  : entryFrame m #[(.int (63 : Int32))] 2 = mkF m 0 #[.val (.int (63 : Int32)), .unset] [] := by first | (simp [entryFrame, mkF, argsToLocals, Value.category]; done) | rfl
set_option maxRecDepth 65536 in
set_option maxHeartbeats 40000000 in
theorem rm5 (l : Launch) (Z : State) (a0 : Array Value) (hw : ∀ d ∈ tables_1, d.before a0 Z = true) (ws : List Jvm.Cond)  (h0 : Heap) (n0 : Nat) (Z0 : n0 ≤ h0.size)  :
    MetFree l (⟨"java/lang/Integer", "numberOfLeadingZeros", "(I)I"⟩ : MethodName) (head1 (Jvm.Cond.code (⟨"java/lang/Integer", "numberOfLeadingZeros", "(I)I"⟩ : MethodName) jdk_33_method_47_code 2 (some .int) :: ws) ({ frames := 0, cells := 0, slots := 0, locals := 0 } : Room)) (fun a U => a = #[(.int (63 : Int32))] ∧ Z.Warmed39 U.vm ∧ U.heap = h0) (fun _ _ _ _ _ => True) (fun _ U o U' => ∃ v L, o = .returned v ∧ Qrm5 Z  h0 n0 v U'.heap L ∧ FrameEnd U o U' L ({ frames := 0, cells := 0, slots := 0, locals := 0 } : Room).cells ({ frames := 0, cells := 0, slots := 0, locals := 0 } : Room).slots) := by
  refine MetFree.of_bodySF (plainFor_of_name pn_3) hisR ?_
  intro p e s m args below meth c s₁ Bd hml0 hP hK
  obtain ⟨rfl, hZ, hh⟩ := hP
  have hx := Bd.exec
  have hby := Bd.bytes
  have hml : c.maxLocals = 2 := hml0
  have hown : s.vm.findClass "java/lang/Integer" = some m.cls := findClass_of_methodNamed Bd.named
  have hnm := (name_of_methodNamed Bd.named Bd.method).1
  have X0 : Stand p l e ({ frames := 0, cells := 0, slots := 0, locals := 0 } : Room) s m #[(.int (63 : Int32))] below meth c s₁ [] 0 0 := Stand.of_body Bd
  have e0 : s₁.heap = h0 := by rw [← hh, Bd.state]; rfl
  have N0 := Fr.nil n0
  have K0 : Keep h0 h0 [] := Keep.refl h0 _
  refine own_go (B := s₁.setTop (mkF m 0 #[.val (.int (63 : Int32)), .unset] [])) (fun t k => castTop (efrm5 m ) k) ?_
  refine own_go (B := s₁.setTop (mkF m 78 #[.val (.int (3 : Int32)), .val (.int (27 : Int32))] [(.int (26 : Int32))])) (fun t k => ?_) ?_
  · refine XS.iloadN X0.here hx rfl (hb hby d5_0) rfl ?_
    refine XS.ifYes X0.here hx rfl (pc0 := 1) (pc' := 15) rfl (hb hby d5_1) rfl ((if0 _ _).trans (tlt (by decide : ((0 : Int32) < (63 : Int32)))).2.2.1) (by decide) (by decide) ?_
    refine XS.bipush X0.here hx rfl (hb hby d5_15) ?_
    refine XS.istoreN X0.here hx rfl (hb hby d5_17) rfl (l' := #[.val (.int (63 : Int32)), .val (.int (31 : Int32))]) rfl ?_
    refine XS.iloadN X0.here hx rfl (hb hby d5_18) rfl ?_
    refine X0.ldcwInt hx hown (mvT hZ (own_w hw 34 rfl)) (g := (mkF m 19 #[.val (.int (63 : Int32)), .val (.int (31 : Int32))] [(.int (63 : Int32))])) rfl (hb hby d5_19) _ ?_
    refine XS.icmpYes X0.here hx rfl (pc0 := 22) (pc' := 33) rfl (hb hby d5_22) rfl (tlt (by decide : ((63 : Int32) < (65536 : Int32)))).1 (by decide) (by decide) ?_
    refine XS.iloadN X0.here hx rfl (hb hby d5_33) rfl ?_
    refine XS.sipush X0.here hx rfl (hb hby d5_34) ?_
    refine XS.icmpYes X0.here hx rfl (pc0 := 37) (pc' := 48) rfl (hb hby d5_37) rfl (tlt (by decide : ((63 : Int32) < (256 : Int32)))).1 (by decide) (by decide) ?_
    refine XS.iloadN X0.here hx rfl (hb hby d5_48) rfl ?_
    refine XS.bipush X0.here hx rfl (hb hby d5_49) ?_
    refine XS.icmpNo X0.here hx rfl (hb hby d5_51) rfl (flt (by decide : ¬ ((63 : Int32) < (16 : Int32)))).1 ?_
    refine XS.iinc X0.here hx rfl (hb hby d5_54) rfl (l' := #[.val (.int (63 : Int32)), .val (.int (27 : Int32))]) rfl ?_
    refine XS.iloadN X0.here hx rfl (hb hby d5_57) rfl ?_
    refine XS.iconst X0.here hx rfl (hb hby d5_58) ?_
    refine XS.iushr X0.here hx rfl (hb hby d5_59) rfl ?_
    refine XS.istoreN X0.here hx rfl (hb hby d5_60) rfl (l' := #[.val (.int (3 : Int32)), .val (.int (27 : Int32))]) rfl ?_
    refine XS.iloadN X0.here hx rfl (hb hby d5_61) rfl ?_
    refine XS.iconst X0.here hx rfl (hb hby d5_62) ?_
    refine XS.icmpYes X0.here hx rfl (pc0 := 63) (pc' := 73) rfl (hb hby d5_63) rfl (tlt (by decide : ((3 : Int32) < (4 : Int32)))).1 (by decide) (by decide) ?_
    refine XS.iloadN X0.here hx rfl (hb hby d5_73) rfl ?_
    refine XS.iloadN X0.here hx rfl (hb hby d5_74) rfl ?_
    refine XS.iconst X0.here hx rfl (hb hby d5_75) ?_
    refine XS.iushr X0.here hx rfl (hb hby d5_76) rfl ?_
    refine XS.isub X0.here hx rfl (hb hby d5_77) rfl ?_
    exact k
  obtain ⟨fs, hr, hrun, hended, hW, hsame⟩ := X0.leave (v := some (.int (26 : Int32))) (fun h => by rw [Bd.returns] at h; cases h)
  refine ⟨_, _, ?_, hrun, hended, _, _, rfl, ?_, ⟨_, rfl⟩, hW, hsame.mono (by decide) (by decide)⟩
  · show Steps p.tables e below (s₁.setTop (mkF m 78 #[.val (.int (3 : Int32)), .val (.int (27 : Int32))] [(.int (26 : Int32))])) _
    exact retOut X0 hx Bd.returns rfl (Or.inl ⟨rfl, Or.inl rfl, _, rfl⟩) (hb hby d5_78) hr
  · show Qrm5 Z  h0 n0 _ s₁.heap _
    rw [e0]
    exact ⟨rfl, N0, rfl⟩
def Qrm4 (Z : State)  (h0 : Heap) (n0 : Nat) (v : Option Value) (h : Heap) (L : List Loc) : Prop := v = some (.int (32 : Int32)) ∧ Fr n0 L ∧ h = h0
theorem efrm4 (m : MethodId)  : entryFrame m #[(.int (63 : Int32))] 1 = mkF m 0 #[.val (.int (63 : Int32))] [] := by first | (simp [entryFrame, mkF, argsToLocals, Value.category]; done) | rfl
set_option maxRecDepth 65536 in
set_option maxHeartbeats 40000000 in
theorem rm4 (l : Launch) (Z : State) (a0 : Array Value) (hw : ∀ d ∈ tables_1, d.before a0 Z = true) (ws : List Jvm.Cond)  (h0 : Heap) (n0 : Nat) (Z0 : n0 ≤ h0.size)  :
    MetFree l (⟨"java/lang/Integer", "highestOneBit", "(I)I"⟩ : MethodName) (head1 (Jvm.Cond.code (⟨"java/lang/Integer", "highestOneBit", "(I)I"⟩ : MethodName) jdk_33_method_45_code 1 (some .int) :: ws) ({ frames := 1, cells := 0, slots := 0, locals := 15 } : Room)) (fun a U => a = #[(.int (63 : Int32))] ∧ Z.Warmed39 U.vm ∧ U.heap = h0) (fun _ _ _ _ _ => True) (fun _ U o U' => ∃ v L, o = .returned v ∧ Qrm4 Z  h0 n0 v U'.heap L ∧ FrameEnd U o U' L ({ frames := 1, cells := 0, slots := 0, locals := 15 } : Room).cells ({ frames := 1, cells := 0, slots := 0, locals := 15 } : Room).slots) := by
  refine MetFree.of_bodySF (plainFor_of_name pn_3) hisR ?_
  intro p e s m args below meth c s₁ Bd hml0 hP hK
  obtain ⟨rfl, hZ, hh⟩ := hP
  have hx := Bd.exec
  have hby := Bd.bytes
  have hml : c.maxLocals = 1 := hml0
  have hown : s.vm.findClass "java/lang/Integer" = some m.cls := findClass_of_methodNamed Bd.named
  have hnm := (name_of_methodNamed Bd.named Bd.method).1
  have X0 : Stand p l e ({ frames := 1, cells := 0, slots := 0, locals := 15 } : Room) s m #[(.int (63 : Int32))] below meth c s₁ [] 0 0 := Stand.of_body Bd
  have e0 : s₁.heap = h0 := by rw [← hh, Bd.state]; rfl
  have N0 := Fr.nil n0
  have K0 : Keep h0 h0 [] := Keep.refl h0 _
  refine own_go (B := s₁.setTop (mkF m 0 #[.val (.int (63 : Int32))] [])) (fun t k => castTop (efrm4 m ) k) ?_
  refine own_go (B := s₁.setTop (mkF m 4 #[.val (.int (63 : Int32))] [(.int (63 : Int32)), (.int (-2147483648 : Int32)), (.int (63 : Int32))])) (fun t k => ?_) ?_
  · refine XS.iloadN X0.here hx rfl (hb hby d4_0) rfl ?_
    refine X0.ldcInt hx hown (mvT hZ (own_w hw 30 rfl)) (g := (mkF m 1 #[.val (.int (63 : Int32))] [(.int (63 : Int32))])) rfl (hb hby d4_1) _ ?_
    refine XS.iloadN X0.here hx rfl (hb hby d4_3) rfl ?_
    exact k
  obtain ⟨_, _, ⟨T418, L418, k418, n418⟩, -, X418, ⟨Lc418, hQ418, l418, y418, z418⟩, st418⟩ := Jvm.LawKit.callS X0 hx (y := (⟨"java/lang/Integer", "numberOfLeadingZeros", "(I)I"⟩ : MethodName)) hown (mvT hZ (own_w hw 31 rfl)) (mvT hZ (own_w hw 32 rfl)) (mvT hZ (own_w hw 28 rfl)) (mvT hZ (own_w hw 33 rfl)) (by decide) (backOf (W := 2) (rm5 l Z a0 hw []  h0 n0 Z0 ) hZ (own_w hw 33 rfl) (own_w hw 28 rfl) (by decide) (by decide)) (g := (mkF m 4 #[.val (.int (63 : Int32))] [(.int (63 : Int32)), (.int (-2147483648 : Int32)), (.int (63 : Int32))])) rfl (by rw [hml]; rfl) (argsL := [(.int (63 : Int32))]) (rest := [(.int (-2147483648 : Int32)), (.int (63 : Int32))]) (lenOf pd_2 rfl) rfl (by show 2 * 0 + _ ≤ _; exact Nat.le_of_eq rfl) (hb hby d4_4) (fun _ _ => ⟨rfl, e0, (by decide : 0 + 0 ≤ _), (by decide : 0 + 0 ≤ _)⟩)
  dsimp only [Pt.U, Pt.locs, Pt.cells, Pt.slots] at X418 l418 y418 z418 st418 hQ418
  subst l418 y418 z418
  obtain ⟨rfl, Nq418, e418⟩ := hQ418
  have N418 := Fr.app N0 Nq418
  refine own_go (B := T418.setTop (mkF m 7 #[.val (.int (63 : Int32))] [(.int (26 : Int32)), (.int (-2147483648 : Int32)), (.int (63 : Int32))])) st418 ?_
  refine own_go (B := T418.setTop (mkF m 9 #[.val (.int (63 : Int32))] [(.int (32 : Int32))])) (fun t k => ?_) ?_
  · refine XS.iushr X418.here hx rfl (hb hby d4_7) rfl ?_
    refine XS.iand X418.here hx rfl (hb hby d4_8) rfl ?_
    exact k
  obtain ⟨fs, hr, hrun, hended, hW, hsame⟩ := X418.leave (v := some (.int (32 : Int32))) (fun h => by rw [Bd.returns] at h; cases h)
  refine ⟨_, _, ?_, hrun, hended, _, _, rfl, ?_, ⟨_, rfl⟩, hW, hsame.mono (by decide) (by decide)⟩
  · show Steps p.tables e below (T418.setTop (mkF m 9 #[.val (.int (63 : Int32))] [(.int (32 : Int32))])) _
    exact retOut X418 hx Bd.returns rfl (Or.inl ⟨rfl, Or.inl rfl, _, rfl⟩) (hb hby d4_9) hr
  · show Qrm4 Z  h0 n0 _ T418.heap _
    rw [e418]
    exact ⟨rfl, N418, rfl⟩
def Qrm1 (Z : State) (a1 : Addr) (h0 : Heap) (n0 : Nat) (v : Option Value) (h : Heap) (L : List Loc) : Prop := ∃ b1 : Addr, ∃ b2 : Addr, ∃ b3 : Addr, ∃ k1 : ClassId, ∃ k2 : ClassId, ∃ k3 : ClassId, ∃ ns' : List Int32, ∃ bs' : List Int32, ∃ cs' : List Int32, v = none ∧ Fr n0 L ∧ Keep h0 h [a1] ∧ h0.size ≤ b1 ∧ h0.size ≤ b2 ∧ h0.size ≤ b3 ∧ a1 ≠ b1 ∧ a1 ≠ b2 ∧ a1 ≠ b3 ∧ b1 ≠ b2 ∧ b1 ≠ b3 ∧ b2 ≠ b3 ∧ Exa Z h a1 OB ∧ Fld Z h a1 OB "variableCount" "I" (.int (3 : Int32)) ∧ Fld Z h a1 OB "maxComputations" "J" (.long (9223372036854775807 : Int64)) ∧ Fld Z h a1 OB "nodes" "[I" (.ref b1) ∧ Fld Z h a1 OB "buckets" "[I" (.ref b2) ∧ Fld Z h a1 OB "cacheBits" "I" (.int (10 : Int32)) ∧ Fld Z h a1 OB "cache" "[I" (.ref b3) ∧ Fld Z h a1 OB "size" "I" (.int (2 : Int32)) ∧ Fld Z h a1 OB "computations" "J" (.long (0 : Int64)) ∧ Arv Z h b1 k1 .int (256 : Int32) (own_I ns') (.int (0 : Int32)) ∧ Arv Z h b2 k2 .int (64 : Int32) (own_I bs') (.int (0 : Int32)) ∧ Arv Z h b3 k3 .int (4096 : Int32) (own_I cs') (.int (0 : Int32)) ∧ (own_Inv ns' bs' cs' 2)
theorem efrm1 (m : MethodId) (x0 : Addr) : entryFrame m #[(.ref x0), (.int (3 : Int32)), (.int (64 : Int32)), (.long (9223372036854775807 : Int64))] 6 = mkF m 0 #[.val (.ref x0), .val (.int (3 : Int32)), .val (.int (64 : Int32)), .val (.long (9223372036854775807 : Int64)), .second, .unset] [] := by first | (simp [entryFrame, mkF, argsToLocals, Value.category]; done) | rfl
set_option maxRecDepth 65536 in
set_option maxHeartbeats 40000000 in
theorem rm1 (l : Launch) (Z : State) (a0 : Array Value) (hw : ∀ d ∈ tables_1, d.before a0 Z = true) (ws : List Jvm.Cond) (a1 : Addr) (h0 : Heap) (n0 : Nat) (Z0 : n0 ≤ h0.size) (P0 : Exa Z h0 a1 OB) (P1 : Fld Z h0 a1 OB "variableCount" "I" (.int (0 : Int32))) (P2 : Fld Z h0 a1 OB "maxNodes" "I" (.int (0 : Int32))) (P3 : Fld Z h0 a1 OB "cacheBits" "I" (.int (0 : Int32))) (P4 : Fld Z h0 a1 OB "size" "I" (.int (0 : Int32))) (P5 : Fld Z h0 a1 OB "maxComputations" "J" (.long (0 : Int64))) (P6 : Fld Z h0 a1 OB "computations" "J" (.long (0 : Int64))) (P7 : Fld Z h0 a1 OB "nodes" "[I" .null) (P8 : Fld Z h0 a1 OB "buckets" "[I" .null) (P9 : Fld Z h0 a1 OB "cache" "[I" .null) (g_a1 : n0 ≤ a1) :
    MetFree l (⟨OB, "<init>", "(IIJ)V"⟩ : MethodName) (head1 (Jvm.Cond.code (⟨OB, "<init>", "(IIJ)V"⟩ : MethodName) prog_103_method_2_code 6 none :: ws) ({ frames := 2, cells := 3, slots := 4416, locals := 28 } : Room)) (fun a U => a = #[(.ref a1), (.int (3 : Int32)), (.int (64 : Int32)), (.long (9223372036854775807 : Int64))] ∧ Z.Warmed39 U.vm ∧ U.heap = h0) (fun _ _ _ _ _ => True) (fun _ U o U' => ∃ v L, o = .returned v ∧ Qrm1 Z a1 h0 n0 v U'.heap L ∧ FrameEnd U o U' L ({ frames := 2, cells := 3, slots := 4416, locals := 28 } : Room).cells ({ frames := 2, cells := 3, slots := 4416, locals := 28 } : Room).slots) := by
  refine MetFree.of_bodySF (plainFor_of_name pn_0) hisR ?_
  intro p e s m args below meth c s₁ Bd hml0 hP hK
  obtain ⟨rfl, hZ, hh⟩ := hP
  have hx := Bd.exec
  have hby := Bd.bytes
  have hml : c.maxLocals = 6 := hml0
  have hown : s.vm.findClass OB = some m.cls := findClass_of_methodNamed Bd.named
  have hnm := (name_of_methodNamed Bd.named Bd.method).1
  have X0 : Stand p l e ({ frames := 2, cells := 3, slots := 4416, locals := 28 } : Room) s m #[(.ref a1), (.int (3 : Int32)), (.int (64 : Int32)), (.long (9223372036854775807 : Int64))] below meth c s₁ [] 0 0 := Stand.of_body Bd
  have e0 : s₁.heap = h0 := by rw [← hh, Bd.state]; rfl
  have N0 := Fr.nil n0
  have K0 : Keep h0 h0 [a1] := Keep.refl h0 _
  refine own_go (B := s₁.setTop (mkF m 0 #[.val (.ref a1), .val (.int (3 : Int32)), .val (.int (64 : Int32)), .val (.long (9223372036854775807 : Int64)), .second, .unset] [])) (fun t k => castTop (efrm1 m a1) k) ?_
  refine own_go (B := s₁.setTop (mkF m 1 #[.val (.ref a1), .val (.int (3 : Int32)), .val (.int (64 : Int32)), .val (.long (9223372036854775807 : Int64)), .second, .unset] [(.ref a1)])) (fun t k => ?_) ?_
  · refine XS.aloadN X0.here hx rfl (hb hby d1_0) rfl rfl ?_
    exact k
  obtain ⟨T419, X419, e419, st419⟩ := initO X0 hx hZ hown (own_w hw 10 rfl) (own_w hw 11 rfl) (own_w hw 12 rfl) e0 (g := (mkF m 1 #[.val (.ref a1), .val (.int (3 : Int32)), .val (.int (64 : Int32)), .val (.long (9223372036854775807 : Int64)), .second, .unset] [(.ref a1)])) rfl (by rw [hml]; rfl) rfl (hb hby d1_1) (by decide) (W := 0) (by show 2 * 0 + _ ≤ _; exact Nat.le_of_eq rfl) (by decide)
  refine own_go st419 ?_
  refine own_go (B := T419.setTop (mkF m 31 #[.val (.ref a1), .val (.int (3 : Int32)), .val (.int (64 : Int32)), .val (.long (9223372036854775807 : Int64)), .second, .unset] [(.int (3 : Int32)), (.ref a1)])) (fun t k => ?_) ?_
  · refine XS.iloadN X419.here hx rfl (hb hby d1_4) rfl ?_
    refine XS.ifNo X419.here hx rfl (hb hby d1_5) rfl ((if0 _ _).trans (flt (by decide : ¬ ((3 : Int32) < (0 : Int32)))).1) ?_
    refine XS.iloadN X419.here hx rfl (hb hby d1_8) rfl ?_
    refine XS.iconst X419.here hx rfl (hb hby d1_9) ?_
    refine XS.icmpNo X419.here hx rfl (hb hby d1_10) rfl (flt (by decide : ¬ ((64 : Int32) < (2 : Int32)))).1 ?_
    refine XS.lloadN X419.here hx rfl (hb hby d1_13) rfl ?_
    refine XS.lconst X419.here hx rfl (hb hby d1_14) ?_
    refine XS.lcmp X419.here hx rfl (hb hby d1_15) rfl ?_
    refine XS.ifYes X419.here hx rfl (pc0 := 16) (pc' := 29) rfl (hb hby d1_16) rfl ((if0 _ _).trans (flt (mt (lw_lt _ _).mp (by decide : ¬ ((9223372036854775807 : Int64) < (0 : Int64))))).2.1) (by decide) (by decide) ?_
    refine XS.aloadN X419.here hx rfl (hb hby d1_29) rfl rfl ?_
    refine XS.iloadN X419.here hx rfl (hb hby d1_30) rfl ?_
    exact k
  obtain ⟨T423, h423, X423, e423, W423, st423⟩ := putF X419 hx hZ hown (host := "") (Or.inl (own_w hw 13 rfl)) Via.refl e419 P1 P0 (Or.inr ⟨(own_w hw 14 rfl), rfl, hnm⟩) (own_w hw 4 rfl) (ty := .int) (by decide) rfl rfl (g := (mkF m 31 #[.val (.ref a1), .val (.int (3 : Int32)), .val (.int (64 : Int32)), .val (.long (9223372036854775807 : Int64)), .second, .unset] [(.int (3 : Int32)), (.ref a1)])) rfl rfl (hb hby d1_31)
  have Q424 : Exa Z h423 a1 OB := P0.wr W423
  have Q425 : Fld Z h423 a1 OB "maxNodes" "I" (.int (0 : Int32)) := P2.other W423 (Or.inr (slot_ne (Or.inr (own_w hw 21 rfl)) (Or.inr (own_w hw 14 rfl)) (by decide) (t := .int) (t' := .int) (by decide) (by decide)))
  have Q426 : Fld Z h423 a1 OB "cacheBits" "I" (.int (0 : Int32)) := P3.other W423 (Or.inr (slot_ne (Or.inl (own_w hw 42 rfl)) (Or.inr (own_w hw 14 rfl)) (by decide) (t := .int) (t' := .int) (by decide) (by decide)))
  have Q427 : Fld Z h423 a1 OB "size" "I" (.int (0 : Int32)) := P4.other W423 (Or.inr (slot_ne (Or.inl (own_w hw 46 rfl)) (Or.inr (own_w hw 14 rfl)) (by decide) (t := .int) (t' := .int) (by decide) (by decide)))
  have Q428 : Fld Z h423 a1 OB "maxComputations" "J" (.long (0 : Int64)) := P5.other W423 (Or.inr (slot_ne (Or.inr (own_w hw 23 rfl)) (Or.inr (own_w hw 14 rfl)) (by decide) (t := .long) (t' := .int) (by decide) (by decide)))
  have Q429 : Fld Z h423 a1 OB "computations" "J" (.long (0 : Int64)) := P6.other W423 (Or.inr (slot_ne (Or.inl (own_w hw 123 rfl)) (Or.inr (own_w hw 14 rfl)) (by decide) (t := .long) (t' := .int) (by decide) (by decide)))
  have Q430 : Fld Z h423 a1 OB "nodes" "[I" .null := P7.other W423 (Or.inr (slot_ne (Or.inl (own_w hw 25 rfl)) (Or.inr (own_w hw 14 rfl)) (by decide) (t := (.array .int)) (t' := .int) (by decide) (by decide)))
  have Q431 : Fld Z h423 a1 OB "buckets" "[I" .null := P8.other W423 (Or.inr (slot_ne (Or.inl (own_w hw 36 rfl)) (Or.inr (own_w hw 14 rfl)) (by decide) (t := (.array .int)) (t' := .int) (by decide) (by decide)))
  have Q432 : Fld Z h423 a1 OB "cache" "[I" .null := P9.other W423 (Or.inr (slot_ne (Or.inl (own_w hw 44 rfl)) (Or.inr (own_w hw 14 rfl)) (by decide) (t := (.array .int)) (t' := .int) (by decide) (by decide)))
  have U423 : Fld Z h423 a1 OB "variableCount" "I" (.int (3 : Int32)) := P1.same W423
  have Z423 : n0 ≤ h423.size := Nat.le_trans Z0 (Keep.of_wr W423).1
  have N423 := Fr.snoc X423 N0 g_a1
  have K423 := K0.wr W423 (Or.inl (List.mem_of_getElem? (i := 0) rfl))
  refine own_go st423 ?_
  refine own_go (B := T423.setTop (mkF m 38 #[.val (.ref a1), .val (.int (3 : Int32)), .val (.int (64 : Int32)), .val (.long (9223372036854775807 : Int64)), .second, .unset] [(.int (536870909 : Int32)), (.int (64 : Int32)), (.ref a1)])) (fun t k => ?_) ?_
  · refine XS.aloadN X423.here hx rfl (hb hby d1_34) rfl rfl ?_
    refine XS.iloadN X423.here hx rfl (hb hby d1_35) rfl ?_
    refine X423.ldcInt hx hown (mvT hZ (own_w hw 15 rfl)) (g := (mkF m 36 #[.val (.ref a1), .val (.int (3 : Int32)), .val (.int (64 : Int32)), .val (.long (9223372036854775807 : Int64)), .second, .unset] [(.int (64 : Int32)), (.ref a1)])) rfl (hb hby d1_36) _ ?_
    exact k
  obtain ⟨_, _, ⟨T433, L433, k433, n433⟩, -, X433, ⟨Lc433, hQ433, l433, y433, z433⟩, st433⟩ := Jvm.LawKit.callS X423 hx (y := (⟨"java/lang/Math", "min", "(II)I"⟩ : MethodName)) hown (mvT hZ (own_w hw 16 rfl)) (mvT hZ (own_w hw 17 rfl)) (mvT hZ (own_w hw 18 rfl)) (mvT hZ (own_w hw 19 rfl)) (by decide) (backOf (W := 1) (rm3a l Z a0 hw []  h423 n0 Z423 ) hZ (own_w hw 19 rfl) (own_w hw 18 rfl) (by decide) (by decide)) (g := (mkF m 38 #[.val (.ref a1), .val (.int (3 : Int32)), .val (.int (64 : Int32)), .val (.long (9223372036854775807 : Int64)), .second, .unset] [(.int (536870909 : Int32)), (.int (64 : Int32)), (.ref a1)])) rfl (by rw [hml]; rfl) (argsL := [(.int (64 : Int32)), (.int (536870909 : Int32))]) (rest := [(.ref a1)]) (lenOf pd_5 rfl) rfl (by show 2 * 0 + _ ≤ _; exact Nat.le_of_eq rfl) (hb hby d1_38) (fun _ _ => ⟨rfl, e423, (by decide : 0 + 0 ≤ _), (by decide : 0 + 0 ≤ _)⟩)
  dsimp only [Pt.U, Pt.locs, Pt.cells, Pt.slots] at X433 l433 y433 z433 st433 hQ433
  subst l433 y433 z433
  obtain ⟨rfl, Nq433, e433⟩ := hQ433
  have N433 := Fr.app N423 Nq433
  refine own_go (B := T433.setTop (mkF m 41 #[.val (.ref a1), .val (.int (3 : Int32)), .val (.int (64 : Int32)), .val (.long (9223372036854775807 : Int64)), .second, .unset] [(.int (64 : Int32)), (.ref a1)])) st433 ?_
  obtain ⟨T434, h434, X434, e434, W434, st434⟩ := putF X433 hx hZ hown (host := "") (Or.inl (own_w hw 20 rfl)) Via.refl e433 Q425 Q424 (Or.inr ⟨(own_w hw 21 rfl), rfl, hnm⟩) (own_w hw 4 rfl) (ty := .int) (by decide) rfl rfl (g := (mkF m 41 #[.val (.ref a1), .val (.int (3 : Int32)), .val (.int (64 : Int32)), .val (.long (9223372036854775807 : Int64)), .second, .unset] [(.int (64 : Int32)), (.ref a1)])) rfl rfl (hb hby d1_41)
  have Q435 : Exa Z h434 a1 OB := Q424.wr W434
  have Q436 : Fld Z h434 a1 OB "cacheBits" "I" (.int (0 : Int32)) := Q426.other W434 (Or.inr (slot_ne (Or.inl (own_w hw 42 rfl)) (Or.inr (own_w hw 21 rfl)) (by decide) (t := .int) (t' := .int) (by decide) (by decide)))
  have Q437 : Fld Z h434 a1 OB "size" "I" (.int (0 : Int32)) := Q427.other W434 (Or.inr (slot_ne (Or.inl (own_w hw 46 rfl)) (Or.inr (own_w hw 21 rfl)) (by decide) (t := .int) (t' := .int) (by decide) (by decide)))
  have Q438 : Fld Z h434 a1 OB "maxComputations" "J" (.long (0 : Int64)) := Q428.other W434 (Or.inr (slot_ne (Or.inr (own_w hw 23 rfl)) (Or.inr (own_w hw 21 rfl)) (by decide) (t := .long) (t' := .int) (by decide) (by decide)))
  have Q439 : Fld Z h434 a1 OB "computations" "J" (.long (0 : Int64)) := Q429.other W434 (Or.inr (slot_ne (Or.inl (own_w hw 123 rfl)) (Or.inr (own_w hw 21 rfl)) (by decide) (t := .long) (t' := .int) (by decide) (by decide)))
  have Q440 : Fld Z h434 a1 OB "nodes" "[I" .null := Q430.other W434 (Or.inr (slot_ne (Or.inl (own_w hw 25 rfl)) (Or.inr (own_w hw 21 rfl)) (by decide) (t := (.array .int)) (t' := .int) (by decide) (by decide)))
  have Q441 : Fld Z h434 a1 OB "buckets" "[I" .null := Q431.other W434 (Or.inr (slot_ne (Or.inl (own_w hw 36 rfl)) (Or.inr (own_w hw 21 rfl)) (by decide) (t := (.array .int)) (t' := .int) (by decide) (by decide)))
  have Q442 : Fld Z h434 a1 OB "cache" "[I" .null := Q432.other W434 (Or.inr (slot_ne (Or.inl (own_w hw 44 rfl)) (Or.inr (own_w hw 21 rfl)) (by decide) (t := (.array .int)) (t' := .int) (by decide) (by decide)))
  have Q443 : Fld Z h434 a1 OB "variableCount" "I" (.int (3 : Int32)) := U423.other W434 (Or.inr (slot_ne (Or.inr (own_w hw 14 rfl)) (Or.inr (own_w hw 21 rfl)) (by decide) (t := .int) (t' := .int) (by decide) (by decide)))
  have U434 : Fld Z h434 a1 OB "maxNodes" "I" (.int (64 : Int32)) := Q425.same W434
  have Z434 : n0 ≤ h434.size := Nat.le_trans Z423 (Keep.of_wr W434).1
  have N434 := Fr.snoc X434 N433 g_a1
  have K434 := K423.wr W434 (Or.inl (List.mem_of_getElem? (i := 0) rfl))
  refine own_go st434 ?_
  refine own_go (B := T434.setTop (mkF m 46 #[.val (.ref a1), .val (.int (3 : Int32)), .val (.int (64 : Int32)), .val (.long (9223372036854775807 : Int64)), .second, .unset] [(.long (9223372036854775807 : Int64)), (.ref a1)])) (fun t k => ?_) ?_
  · refine XS.aloadN X434.here hx rfl (hb hby d1_44) rfl rfl ?_
    refine XS.lloadN X434.here hx rfl (hb hby d1_45) rfl ?_
    exact k
  obtain ⟨T444, h444, X444, e444, W444, st444⟩ := putF X434 hx hZ hown (host := "") (Or.inl (own_w hw 22 rfl)) Via.refl e434 Q438 Q435 (Or.inr ⟨(own_w hw 23 rfl), rfl, hnm⟩) (own_w hw 4 rfl) (ty := .long) (by decide) rfl rfl (g := (mkF m 46 #[.val (.ref a1), .val (.int (3 : Int32)), .val (.int (64 : Int32)), .val (.long (9223372036854775807 : Int64)), .second, .unset] [(.long (9223372036854775807 : Int64)), (.ref a1)])) rfl rfl (hb hby d1_46)
  have Q445 : Exa Z h444 a1 OB := Q435.wr W444
  have Q446 : Fld Z h444 a1 OB "cacheBits" "I" (.int (0 : Int32)) := Q436.other W444 (Or.inr (slot_ne (Or.inl (own_w hw 42 rfl)) (Or.inr (own_w hw 23 rfl)) (by decide) (t := .int) (t' := .long) (by decide) (by decide)))
  have Q447 : Fld Z h444 a1 OB "size" "I" (.int (0 : Int32)) := Q437.other W444 (Or.inr (slot_ne (Or.inl (own_w hw 46 rfl)) (Or.inr (own_w hw 23 rfl)) (by decide) (t := .int) (t' := .long) (by decide) (by decide)))
  have Q448 : Fld Z h444 a1 OB "computations" "J" (.long (0 : Int64)) := Q439.other W444 (Or.inr (slot_ne (Or.inl (own_w hw 123 rfl)) (Or.inr (own_w hw 23 rfl)) (by decide) (t := .long) (t' := .long) (by decide) (by decide)))
  have Q449 : Fld Z h444 a1 OB "nodes" "[I" .null := Q440.other W444 (Or.inr (slot_ne (Or.inl (own_w hw 25 rfl)) (Or.inr (own_w hw 23 rfl)) (by decide) (t := (.array .int)) (t' := .long) (by decide) (by decide)))
  have Q450 : Fld Z h444 a1 OB "buckets" "[I" .null := Q441.other W444 (Or.inr (slot_ne (Or.inl (own_w hw 36 rfl)) (Or.inr (own_w hw 23 rfl)) (by decide) (t := (.array .int)) (t' := .long) (by decide) (by decide)))
  have Q451 : Fld Z h444 a1 OB "cache" "[I" .null := Q442.other W444 (Or.inr (slot_ne (Or.inl (own_w hw 44 rfl)) (Or.inr (own_w hw 23 rfl)) (by decide) (t := (.array .int)) (t' := .long) (by decide) (by decide)))
  have Q452 : Fld Z h444 a1 OB "variableCount" "I" (.int (3 : Int32)) := Q443.other W444 (Or.inr (slot_ne (Or.inr (own_w hw 14 rfl)) (Or.inr (own_w hw 23 rfl)) (by decide) (t := .int) (t' := .long) (by decide) (by decide)))
  have Q453 : Fld Z h444 a1 OB "maxNodes" "I" (.int (64 : Int32)) := U434.other W444 (Or.inr (slot_ne (Or.inr (own_w hw 21 rfl)) (Or.inr (own_w hw 23 rfl)) (by decide) (t := .int) (t' := .long) (by decide) (by decide)))
  have U444 : Fld Z h444 a1 OB "maxComputations" "J" (.long (9223372036854775807 : Int64)) := Q438.same W444
  have Z444 : n0 ≤ h444.size := Nat.le_trans Z434 (Keep.of_wr W444).1
  have N444 := Fr.snoc X444 N434 g_a1
  have K444 := K434.wr W444 (Or.inl (List.mem_of_getElem? (i := 0) rfl))
  refine own_go st444 ?_
  refine own_go (B := T444.setTop (mkF m 53 #[.val (.ref a1), .val (.int (3 : Int32)), .val (.int (64 : Int32)), .val (.long (9223372036854775807 : Int64)), .second, .unset] [(.ref a1), (.int (1024 : Int32))])) (fun t k => ?_) ?_
  · refine XS.sipush X444.here hx rfl (hb hby d1_49) ?_
    refine XS.aloadN X444.here hx rfl (hb hby d1_52) rfl rfl ?_
    exact k
  obtain ⟨T454, X454, e454, st454⟩ := getF X444 hx hZ hown (host := "") (Or.inl (own_w hw 20 rfl)) Via.refl e444 Q453 (g := (mkF m 53 #[.val (.ref a1), .val (.int (3 : Int32)), .val (.int (64 : Int32)), .val (.long (9223372036854775807 : Int64)), .second, .unset] [(.ref a1), (.int (1024 : Int32))])) rfl rfl (hb hby d1_53)
  refine own_go st454 ?_
  obtain ⟨_, _, ⟨T455, L455, k455, n455⟩, -, X455, ⟨Lc455, hQ455, l455, y455, z455⟩, st455⟩ := Jvm.LawKit.callS X454 hx (y := (⟨"java/lang/Math", "min", "(II)I"⟩ : MethodName)) hown (mvT hZ (own_w hw 16 rfl)) (mvT hZ (own_w hw 17 rfl)) (mvT hZ (own_w hw 18 rfl)) (mvT hZ (own_w hw 19 rfl)) (by decide) (backOf (W := 0) (rm3b l Z a0 hw []  h444 n0 Z444 ) hZ (own_w hw 19 rfl) (own_w hw 18 rfl) (by decide) (by decide)) (g := (mkF m 56 #[.val (.ref a1), .val (.int (3 : Int32)), .val (.int (64 : Int32)), .val (.long (9223372036854775807 : Int64)), .second, .unset] [(.int (64 : Int32)), (.int (1024 : Int32))])) rfl (by rw [hml]; rfl) (argsL := [(.int (1024 : Int32)), (.int (64 : Int32))]) (rest := []) (lenOf pd_5 rfl) rfl (by show 2 * 0 + _ ≤ _; exact Nat.le_of_eq rfl) (hb hby d1_56) (fun _ _ => ⟨rfl, e454, (by decide : 0 + 0 ≤ _), (by decide : 0 + 0 ≤ _)⟩)
  dsimp only [Pt.U, Pt.locs, Pt.cells, Pt.slots] at X455 l455 y455 z455 st455 hQ455
  subst l455 y455 z455
  obtain ⟨rfl, Nq455, e455⟩ := hQ455
  have N455 := Fr.app N444 Nq455
  refine own_go (B := T455.setTop (mkF m 59 #[.val (.ref a1), .val (.int (3 : Int32)), .val (.int (64 : Int32)), .val (.long (9223372036854775807 : Int64)), .second, .unset] [(.int (64 : Int32))])) st455 ?_
  refine own_go (B := T455.setTop (mkF m 66 #[.val (.ref a1), .val (.int (3 : Int32)), .val (.int (64 : Int32)), .val (.long (9223372036854775807 : Int64)), .second, .val (.int (64 : Int32))] [(.int (256 : Int32)), (.ref a1)])) (fun t k => ?_) ?_
  · refine XS.istore X455.here hx rfl (hb hby d1_59) rfl (l' := #[.val (.ref a1), .val (.int (3 : Int32)), .val (.int (64 : Int32)), .val (.long (9223372036854775807 : Int64)), .second, .val (.int (64 : Int32))]) rfl ?_
    refine XS.aloadN X455.here hx rfl (hb hby d1_61) rfl rfl ?_
    refine XS.iconst X455.here hx rfl (hb hby d1_62) ?_
    refine XS.iload X455.here hx rfl (hb hby d1_63) rfl ?_
    refine XS.imul X455.here hx rfl (hb hby d1_65) rfl ?_
    exact k
  obtain ⟨T456, h456, k456, X456, e456, E456, A456, st456⟩ := newP X455 hx hZ (own_w hw 1 rfl) e455 (g := (mkF m 66 #[.val (.ref a1), .val (.int (3 : Int32)), .val (.int (64 : Int32)), .val (.long (9223372036854775807 : Int64)), .second, .val (.int (64 : Int32))] [(.int (256 : Int32)), (.ref a1)])) rfl (hb hby d1_66) rfl (by decide) (cap := 256) (by decide) (by decide) (by decide) (by decide)
  obtain ⟨b456, g456⟩ : ∃ z, z = h444.size := ⟨_, rfl⟩
  rw [← g456] at A456 st456
  have ne456_a1 : a1 ≠ b456 := Nat.ne_of_lt (Nat.lt_of_lt_of_le Q445.lt (Nat.le_of_eq g456.symm))
  have low456 : n0 ≤ b456 := Nat.le_trans Z444 (Nat.le_of_eq g456.symm)
  have sz456 : h0.size ≤ b456 := Nat.le_trans K444.1 (Nat.le_of_eq g456.symm)
  have Q457 : Exa Z h456 a1 OB := Q445.ext E456
  have Q458 : Fld Z h456 a1 OB "cacheBits" "I" (.int (0 : Int32)) := Q446.ext E456
  have Q459 : Fld Z h456 a1 OB "size" "I" (.int (0 : Int32)) := Q447.ext E456
  have Q460 : Fld Z h456 a1 OB "computations" "J" (.long (0 : Int64)) := Q448.ext E456
  have Q461 : Fld Z h456 a1 OB "nodes" "[I" .null := Q449.ext E456
  have Q462 : Fld Z h456 a1 OB "buckets" "[I" .null := Q450.ext E456
  have Q463 : Fld Z h456 a1 OB "cache" "[I" .null := Q451.ext E456
  have Q464 : Fld Z h456 a1 OB "variableCount" "I" (.int (3 : Int32)) := Q452.ext E456
  have Q465 : Fld Z h456 a1 OB "maxNodes" "I" (.int (64 : Int32)) := Q453.ext E456
  have Q466 : Fld Z h456 a1 OB "maxComputations" "J" (.long (9223372036854775807 : Int64)) := U444.ext E456
  have Z456 : n0 ≤ h456.size := Nat.le_trans Z444 E456.1
  have K456 := K444.ext E456
  have V456 : Arv Z h456 b456 k456 .int (256 : Int32) (own_I (List.replicate 256 0)) (.int (0 : Int32)) := own_newI (Arv.new A456 (by decide))
  refine own_go st456 ?_
  obtain ⟨T467, h467, X467, e467, W467, st467⟩ := putF X456 hx hZ hown (host := "") (Or.inl (own_w hw 24 rfl)) Via.refl e456 Q461 Q457 (Or.inl (own_w hw 25 rfl)) (own_w hw 4 rfl) (ty := (.array .int)) (by decide) rfl rfl (g := (mkF m 68 #[.val (.ref a1), .val (.int (3 : Int32)), .val (.int (64 : Int32)), .val (.long (9223372036854775807 : Int64)), .second, .val (.int (64 : Int32))] [(.ref b456), (.ref a1)])) rfl rfl (hb hby d1_68)
  have Q468 : Exa Z h467 a1 OB := Q457.wr W467
  have Q469 : Fld Z h467 a1 OB "cacheBits" "I" (.int (0 : Int32)) := Q458.other W467 (Or.inr (slot_ne (Or.inl (own_w hw 42 rfl)) (Or.inl (own_w hw 25 rfl)) (by decide) (t := .int) (t' := (.array .int)) (by decide) (by decide)))
  have Q470 : Fld Z h467 a1 OB "size" "I" (.int (0 : Int32)) := Q459.other W467 (Or.inr (slot_ne (Or.inl (own_w hw 46 rfl)) (Or.inl (own_w hw 25 rfl)) (by decide) (t := .int) (t' := (.array .int)) (by decide) (by decide)))
  have Q471 : Fld Z h467 a1 OB "computations" "J" (.long (0 : Int64)) := Q460.other W467 (Or.inr (slot_ne (Or.inl (own_w hw 123 rfl)) (Or.inl (own_w hw 25 rfl)) (by decide) (t := .long) (t' := (.array .int)) (by decide) (by decide)))
  have Q472 : Fld Z h467 a1 OB "buckets" "[I" .null := Q462.other W467 (Or.inr (slot_ne (Or.inl (own_w hw 36 rfl)) (Or.inl (own_w hw 25 rfl)) (by decide) (t := (.array .int)) (t' := (.array .int)) (by decide) (by decide)))
  have Q473 : Fld Z h467 a1 OB "cache" "[I" .null := Q463.other W467 (Or.inr (slot_ne (Or.inl (own_w hw 44 rfl)) (Or.inl (own_w hw 25 rfl)) (by decide) (t := (.array .int)) (t' := (.array .int)) (by decide) (by decide)))
  have Q474 : Fld Z h467 a1 OB "variableCount" "I" (.int (3 : Int32)) := Q464.other W467 (Or.inr (slot_ne (Or.inr (own_w hw 14 rfl)) (Or.inl (own_w hw 25 rfl)) (by decide) (t := .int) (t' := (.array .int)) (by decide) (by decide)))
  have Q475 : Fld Z h467 a1 OB "maxNodes" "I" (.int (64 : Int32)) := Q465.other W467 (Or.inr (slot_ne (Or.inr (own_w hw 21 rfl)) (Or.inl (own_w hw 25 rfl)) (by decide) (t := .int) (t' := (.array .int)) (by decide) (by decide)))
  have Q476 : Fld Z h467 a1 OB "maxComputations" "J" (.long (9223372036854775807 : Int64)) := Q466.other W467 (Or.inr (slot_ne (Or.inr (own_w hw 23 rfl)) (Or.inl (own_w hw 25 rfl)) (by decide) (t := .long) (t' := (.array .int)) (by decide) (by decide)))
  have Q477 : Arv Z h467 b456 k456 .int (256 : Int32) (own_I (List.replicate 256 0)) (.int (0 : Int32)) := V456.other W467 (Ne.symm ne456_a1)
  have U467 : Fld Z h467 a1 OB "nodes" "[I" (.ref b456) := Q461.same W467
  have Z467 : n0 ≤ h467.size := Nat.le_trans Z456 (Keep.of_wr W467).1
  have N467 := Fr.snoc X467 N455 g_a1
  have K467 := K456.wr W467 (Or.inl (List.mem_of_getElem? (i := 0) rfl))
  refine own_go st467 ?_
  refine own_go (B := T467.setTop (mkF m 76 #[.val (.ref a1), .val (.int (3 : Int32)), .val (.int (64 : Int32)), .val (.long (9223372036854775807 : Int64)), .second, .val (.int (64 : Int32))] [(.int (63 : Int32)), (.ref a1)])) (fun t k => ?_) ?_
  · refine XS.aloadN X467.here hx rfl (hb hby d1_71) rfl rfl ?_
    refine XS.iload X467.here hx rfl (hb hby d1_72) rfl ?_
    refine XS.iconst X467.here hx rfl (hb hby d1_74) ?_
    refine XS.isub X467.here hx rfl (hb hby d1_75) rfl ?_
    exact k
  obtain ⟨_, _, ⟨T478, L478, k478, n478⟩, -, X478, ⟨Lc478, hQ478, l478, y478, z478⟩, st478⟩ := Jvm.LawKit.callS X467 hx (y := (⟨"java/lang/Integer", "highestOneBit", "(I)I"⟩ : MethodName)) hown (mvT hZ (own_w hw 26 rfl)) (mvT hZ (own_w hw 27 rfl)) (mvT hZ (own_w hw 28 rfl)) (mvT hZ (own_w hw 29 rfl)) (by decide) (backOf (W := 1) (rm4 l Z a0 hw []  h467 n0 Z467 ) hZ (own_w hw 29 rfl) (own_w hw 28 rfl) (by decide) (by decide)) (g := (mkF m 76 #[.val (.ref a1), .val (.int (3 : Int32)), .val (.int (64 : Int32)), .val (.long (9223372036854775807 : Int64)), .second, .val (.int (64 : Int32))] [(.int (63 : Int32)), (.ref a1)])) rfl (by rw [hml]; rfl) (argsL := [(.int (63 : Int32))]) (rest := [(.ref a1)]) (lenOf pd_2 rfl) rfl (by show 2 * 0 + _ ≤ _; exact Nat.le_of_eq rfl) (hb hby d1_76) (fun _ _ => ⟨rfl, e467, (by decide : 1 + 0 ≤ _), (by decide : 256 + 0 ≤ _)⟩)
  dsimp only [Pt.U, Pt.locs, Pt.cells, Pt.slots] at X478 l478 y478 z478 st478 hQ478
  subst l478 y478 z478
  obtain ⟨rfl, Nq478, e478⟩ := hQ478
  have N478 := Fr.app N467 Nq478
  refine own_go (B := T478.setTop (mkF m 79 #[.val (.ref a1), .val (.int (3 : Int32)), .val (.int (64 : Int32)), .val (.long (9223372036854775807 : Int64)), .second, .val (.int (64 : Int32))] [(.int (32 : Int32)), (.ref a1)])) st478 ?_
  refine own_go (B := T478.setTop (mkF m 81 #[.val (.ref a1), .val (.int (3 : Int32)), .val (.int (64 : Int32)), .val (.long (9223372036854775807 : Int64)), .second, .val (.int (64 : Int32))] [(.int (64 : Int32)), (.ref a1)])) (fun t k => ?_) ?_
  · refine XS.iconst X478.here hx rfl (hb hby d1_79) ?_
    refine XS.ishl X478.here hx rfl (hb hby d1_80) rfl ?_
    exact k
  obtain ⟨T479, h479, k479, X479, e479, E479, A479, st479⟩ := newP X478 hx hZ (own_w hw 1 rfl) e478 (g := (mkF m 81 #[.val (.ref a1), .val (.int (3 : Int32)), .val (.int (64 : Int32)), .val (.long (9223372036854775807 : Int64)), .second, .val (.int (64 : Int32))] [(.int (64 : Int32)), (.ref a1)])) rfl (hb hby d1_81) rfl (by decide) (cap := 64) (by decide) (by decide) (by decide) (by decide)
  obtain ⟨b479, g479⟩ : ∃ z, z = h467.size := ⟨_, rfl⟩
  rw [← g479] at A479 st479
  have ne479_a1 : a1 ≠ b479 := Nat.ne_of_lt (Nat.lt_of_lt_of_le Q468.lt (Nat.le_of_eq g479.symm))
  have ne479_b456 : b456 ≠ b479 := Nat.ne_of_lt (Nat.lt_of_lt_of_le Q477.lt (Nat.le_of_eq g479.symm))
  have low479 : n0 ≤ b479 := Nat.le_trans Z467 (Nat.le_of_eq g479.symm)
  have sz479 : h0.size ≤ b479 := Nat.le_trans K467.1 (Nat.le_of_eq g479.symm)
  have Q480 : Exa Z h479 a1 OB := Q468.ext E479
  have Q481 : Fld Z h479 a1 OB "cacheBits" "I" (.int (0 : Int32)) := Q469.ext E479
  have Q482 : Fld Z h479 a1 OB "size" "I" (.int (0 : Int32)) := Q470.ext E479
  have Q483 : Fld Z h479 a1 OB "computations" "J" (.long (0 : Int64)) := Q471.ext E479
  have Q484 : Fld Z h479 a1 OB "buckets" "[I" .null := Q472.ext E479
  have Q485 : Fld Z h479 a1 OB "cache" "[I" .null := Q473.ext E479
  have Q486 : Fld Z h479 a1 OB "variableCount" "I" (.int (3 : Int32)) := Q474.ext E479
  have Q487 : Fld Z h479 a1 OB "maxNodes" "I" (.int (64 : Int32)) := Q475.ext E479
  have Q488 : Fld Z h479 a1 OB "maxComputations" "J" (.long (9223372036854775807 : Int64)) := Q476.ext E479
  have Q489 : Arv Z h479 b456 k456 .int (256 : Int32) (own_I (List.replicate 256 0)) (.int (0 : Int32)) := Q477.ext E479
  have Q490 : Fld Z h479 a1 OB "nodes" "[I" (.ref b456) := U467.ext E479
  have Z479 : n0 ≤ h479.size := Nat.le_trans Z467 E479.1
  have K479 := K467.ext E479
  have V479 : Arv Z h479 b479 k479 .int (64 : Int32) (own_I (List.replicate 64 0)) (.int (0 : Int32)) := own_newI (Arv.new A479 (by decide))
  refine own_go st479 ?_
  obtain ⟨T491, h491, X491, e491, W491, st491⟩ := putF X479 hx hZ hown (host := "") (Or.inl (own_w hw 35 rfl)) Via.refl e479 Q484 Q480 (Or.inl (own_w hw 36 rfl)) (own_w hw 4 rfl) (ty := (.array .int)) (by decide) rfl rfl (g := (mkF m 83 #[.val (.ref a1), .val (.int (3 : Int32)), .val (.int (64 : Int32)), .val (.long (9223372036854775807 : Int64)), .second, .val (.int (64 : Int32))] [(.ref b479), (.ref a1)])) rfl rfl (hb hby d1_83)
  have Q492 : Exa Z h491 a1 OB := Q480.wr W491
  have Q493 : Fld Z h491 a1 OB "cacheBits" "I" (.int (0 : Int32)) := Q481.other W491 (Or.inr (slot_ne (Or.inl (own_w hw 42 rfl)) (Or.inl (own_w hw 36 rfl)) (by decide) (t := .int) (t' := (.array .int)) (by decide) (by decide)))
  have Q494 : Fld Z h491 a1 OB "size" "I" (.int (0 : Int32)) := Q482.other W491 (Or.inr (slot_ne (Or.inl (own_w hw 46 rfl)) (Or.inl (own_w hw 36 rfl)) (by decide) (t := .int) (t' := (.array .int)) (by decide) (by decide)))
  have Q495 : Fld Z h491 a1 OB "computations" "J" (.long (0 : Int64)) := Q483.other W491 (Or.inr (slot_ne (Or.inl (own_w hw 123 rfl)) (Or.inl (own_w hw 36 rfl)) (by decide) (t := .long) (t' := (.array .int)) (by decide) (by decide)))
  have Q496 : Fld Z h491 a1 OB "cache" "[I" .null := Q485.other W491 (Or.inr (slot_ne (Or.inl (own_w hw 44 rfl)) (Or.inl (own_w hw 36 rfl)) (by decide) (t := (.array .int)) (t' := (.array .int)) (by decide) (by decide)))
  have Q497 : Fld Z h491 a1 OB "variableCount" "I" (.int (3 : Int32)) := Q486.other W491 (Or.inr (slot_ne (Or.inr (own_w hw 14 rfl)) (Or.inl (own_w hw 36 rfl)) (by decide) (t := .int) (t' := (.array .int)) (by decide) (by decide)))
  have Q498 : Fld Z h491 a1 OB "maxNodes" "I" (.int (64 : Int32)) := Q487.other W491 (Or.inr (slot_ne (Or.inr (own_w hw 21 rfl)) (Or.inl (own_w hw 36 rfl)) (by decide) (t := .int) (t' := (.array .int)) (by decide) (by decide)))
  have Q499 : Fld Z h491 a1 OB "maxComputations" "J" (.long (9223372036854775807 : Int64)) := Q488.other W491 (Or.inr (slot_ne (Or.inr (own_w hw 23 rfl)) (Or.inl (own_w hw 36 rfl)) (by decide) (t := .long) (t' := (.array .int)) (by decide) (by decide)))
  have Q500 : Arv Z h491 b456 k456 .int (256 : Int32) (own_I (List.replicate 256 0)) (.int (0 : Int32)) := Q489.other W491 (Ne.symm ne456_a1)
  have Q501 : Fld Z h491 a1 OB "nodes" "[I" (.ref b456) := Q490.other W491 (Or.inr (slot_ne (Or.inl (own_w hw 25 rfl)) (Or.inl (own_w hw 36 rfl)) (by decide) (t := (.array .int)) (t' := (.array .int)) (by decide) (by decide)))
  have Q502 : Arv Z h491 b479 k479 .int (64 : Int32) (own_I (List.replicate 64 0)) (.int (0 : Int32)) := V479.other W491 (Ne.symm ne479_a1)
  have U491 : Fld Z h491 a1 OB "buckets" "[I" (.ref b479) := Q484.same W491
  have Z491 : n0 ≤ h491.size := Nat.le_trans Z479 (Keep.of_wr W491).1
  have N491 := Fr.snoc X491 N478 g_a1
  have K491 := K479.wr W491 (Or.inl (List.mem_of_getElem? (i := 0) rfl))
  refine own_go st491 ?_
  refine own_go (B := T491.setTop (mkF m 87 #[.val (.ref a1), .val (.int (3 : Int32)), .val (.int (64 : Int32)), .val (.long (9223372036854775807 : Int64)), .second, .val (.int (64 : Int32))] [(.ref a1)])) (fun t k => ?_) ?_
  · refine XS.aloadN X491.here hx rfl (hb hby d1_86) rfl rfl ?_
    exact k
  obtain ⟨T503, X503, e503, st503⟩ := getF X491 hx hZ hown (host := "") (Or.inl (own_w hw 35 rfl)) Via.refl e491 U491 (g := (mkF m 87 #[.val (.ref a1), .val (.int (3 : Int32)), .val (.int (64 : Int32)), .val (.long (9223372036854775807 : Int64)), .second, .val (.int (64 : Int32))] [(.ref a1)])) rfl rfl (hb hby d1_87)
  refine own_go st503 ?_
  refine own_go (B := T503.setTop (mkF m 91 #[.val (.ref a1), .val (.int (3 : Int32)), .val (.int (64 : Int32)), .val (.long (9223372036854775807 : Int64)), .second, .val (.int (64 : Int32))] [(.int (-1 : Int32)), (.ref b479)])) (fun t k => ?_) ?_
  · refine XS.iconst X503.here hx rfl (hb hby d1_90) ?_
    exact k
  obtain ⟨_, _, ⟨T504, L504, k504, n504⟩, -, X504, ⟨Lc504, hQ504, l504, y504, z504⟩, st504⟩ := Jvm.LawKit.callS X503 hx (y := (⟨"java/util/Arrays", "fill", "([II)V"⟩ : MethodName)) hown (mvT hZ (own_w hw 37 rfl)) (mvT hZ (own_w hw 38 rfl)) (mvT hZ (own_w hw 39 rfl)) (mvT hZ (own_w hw 40 rfl)) (by decide) (backOf (W := 0) (rm6_64 l Z a0 hw [] b479 k479 (List.replicate 64 0) h491 n0 Z491 Q502 low479 (by simp)) hZ (own_w hw 40 rfl) (own_w hw 39 rfl) (by decide) (by decide)) (g := (mkF m 91 #[.val (.ref a1), .val (.int (3 : Int32)), .val (.int (64 : Int32)), .val (.long (9223372036854775807 : Int64)), .second, .val (.int (64 : Int32))] [(.int (-1 : Int32)), (.ref b479)])) rfl (by rw [hml]; rfl) (argsL := [(.ref b479), (.int (-1 : Int32))]) (rest := []) (lenOf pd_8 rfl) rfl (by show 2 * 0 + _ ≤ _; exact Nat.le_of_eq rfl) (hb hby d1_91) (fun _ _ => ⟨rfl, e503, (by decide : 2 + 0 ≤ _), (by decide : 320 + 0 ≤ _)⟩)
  dsimp only [Pt.U, Pt.locs, Pt.cells, Pt.slots] at X504 l504 y504 z504 st504 hQ504
  subst l504 y504 z504
  obtain ⟨rfl, Nq504, Kq504, U504_0⟩ := hQ504
  have Q505 : Exa Z T504.heap a1 OB := Q492.keep Kq504
  have Q506 : Fld Z T504.heap a1 OB "cacheBits" "I" (.int (0 : Int32)) := Q493.keep Kq504 (ninS ne479_a1 nin0)
  have Q507 : Fld Z T504.heap a1 OB "size" "I" (.int (0 : Int32)) := Q494.keep Kq504 (ninS ne479_a1 nin0)
  have Q508 : Fld Z T504.heap a1 OB "computations" "J" (.long (0 : Int64)) := Q495.keep Kq504 (ninS ne479_a1 nin0)
  have Q509 : Fld Z T504.heap a1 OB "cache" "[I" .null := Q496.keep Kq504 (ninS ne479_a1 nin0)
  have Q510 : Fld Z T504.heap a1 OB "variableCount" "I" (.int (3 : Int32)) := Q497.keep Kq504 (ninS ne479_a1 nin0)
  have Q511 : Fld Z T504.heap a1 OB "maxNodes" "I" (.int (64 : Int32)) := Q498.keep Kq504 (ninS ne479_a1 nin0)
  have Q512 : Fld Z T504.heap a1 OB "maxComputations" "J" (.long (9223372036854775807 : Int64)) := Q499.keep Kq504 (ninS ne479_a1 nin0)
  have Q513 : Arv Z T504.heap b456 k456 .int (256 : Int32) (own_I (List.replicate 256 0)) (.int (0 : Int32)) := Q500.keep Kq504 (ninS ne479_b456 nin0)
  have Q514 : Fld Z T504.heap a1 OB "nodes" "[I" (.ref b456) := Q501.keep Kq504 (ninS ne479_a1 nin0)
  have Q515 : Fld Z T504.heap a1 OB "buckets" "[I" (.ref b479) := U491.keep Kq504 (ninS ne479_a1 nin0)
  have Z504 : n0 ≤ T504.heap.size := Nat.le_trans Z491 Kq504.1
  have K504 : Keep h0 T504.heap [a1] := K491.trans Kq504 (allS (Or.inr sz479) all0)
  have N504 := Fr.app N491 Nq504
  refine own_go (B := T504.setTop (mkF m 94 #[.val (.ref a1), .val (.int (3 : Int32)), .val (.int (64 : Int32)), .val (.long (9223372036854775807 : Int64)), .second, .val (.int (64 : Int32))] [])) st504 ?_
  refine own_go (B := T504.setTop (mkF m 97 #[.val (.ref a1), .val (.int (3 : Int32)), .val (.int (64 : Int32)), .val (.long (9223372036854775807 : Int64)), .second, .val (.int (64 : Int32))] [(.int (10 : Int32)), (.ref a1)])) (fun t k => ?_) ?_
  · refine XS.aloadN X504.here hx rfl (hb hby d1_94) rfl rfl ?_
    refine XS.bipush X504.here hx rfl (hb hby d1_95) ?_
    exact k
  obtain ⟨T516, h516, X516, e516, W516, st516⟩ := putF X504 hx hZ hown (host := "") (Or.inl (own_w hw 41 rfl)) Via.refl rfl Q506 Q505 (Or.inl (own_w hw 42 rfl)) (own_w hw 4 rfl) (ty := .int) (by decide) rfl rfl (g := (mkF m 97 #[.val (.ref a1), .val (.int (3 : Int32)), .val (.int (64 : Int32)), .val (.long (9223372036854775807 : Int64)), .second, .val (.int (64 : Int32))] [(.int (10 : Int32)), (.ref a1)])) rfl rfl (hb hby d1_97)
  have Q517 : Exa Z h516 a1 OB := Q505.wr W516
  have Q518 : Fld Z h516 a1 OB "size" "I" (.int (0 : Int32)) := Q507.other W516 (Or.inr (slot_ne (Or.inl (own_w hw 46 rfl)) (Or.inl (own_w hw 42 rfl)) (by decide) (t := .int) (t' := .int) (by decide) (by decide)))
  have Q519 : Fld Z h516 a1 OB "computations" "J" (.long (0 : Int64)) := Q508.other W516 (Or.inr (slot_ne (Or.inl (own_w hw 123 rfl)) (Or.inl (own_w hw 42 rfl)) (by decide) (t := .long) (t' := .int) (by decide) (by decide)))
  have Q520 : Fld Z h516 a1 OB "cache" "[I" .null := Q509.other W516 (Or.inr (slot_ne (Or.inl (own_w hw 44 rfl)) (Or.inl (own_w hw 42 rfl)) (by decide) (t := (.array .int)) (t' := .int) (by decide) (by decide)))
  have Q521 : Fld Z h516 a1 OB "variableCount" "I" (.int (3 : Int32)) := Q510.other W516 (Or.inr (slot_ne (Or.inr (own_w hw 14 rfl)) (Or.inl (own_w hw 42 rfl)) (by decide) (t := .int) (t' := .int) (by decide) (by decide)))
  have Q522 : Fld Z h516 a1 OB "maxNodes" "I" (.int (64 : Int32)) := Q511.other W516 (Or.inr (slot_ne (Or.inr (own_w hw 21 rfl)) (Or.inl (own_w hw 42 rfl)) (by decide) (t := .int) (t' := .int) (by decide) (by decide)))
  have Q523 : Fld Z h516 a1 OB "maxComputations" "J" (.long (9223372036854775807 : Int64)) := Q512.other W516 (Or.inr (slot_ne (Or.inr (own_w hw 23 rfl)) (Or.inl (own_w hw 42 rfl)) (by decide) (t := .long) (t' := .int) (by decide) (by decide)))
  have Q524 : Arv Z h516 b456 k456 .int (256 : Int32) (own_I (List.replicate 256 0)) (.int (0 : Int32)) := Q513.other W516 (Ne.symm ne456_a1)
  have Q525 : Fld Z h516 a1 OB "nodes" "[I" (.ref b456) := Q514.other W516 (Or.inr (slot_ne (Or.inl (own_w hw 25 rfl)) (Or.inl (own_w hw 42 rfl)) (by decide) (t := (.array .int)) (t' := .int) (by decide) (by decide)))
  have Q526 : Fld Z h516 a1 OB "buckets" "[I" (.ref b479) := Q515.other W516 (Or.inr (slot_ne (Or.inl (own_w hw 36 rfl)) (Or.inl (own_w hw 42 rfl)) (by decide) (t := (.array .int)) (t' := .int) (by decide) (by decide)))
  have Q527 : Arv Z h516 b479 k479 .int (64 : Int32) (own_I (List.replicate 64 (-1 : Int32))) (.int (0 : Int32)) := U504_0.other W516 (Ne.symm ne479_a1)
  have U516 : Fld Z h516 a1 OB "cacheBits" "I" (.int (10 : Int32)) := Q506.same W516
  have Z516 : n0 ≤ h516.size := Nat.le_trans Z504 (Keep.of_wr W516).1
  have N516 := Fr.snoc X516 N504 g_a1
  have K516 := K504.wr W516 (Or.inl (List.mem_of_getElem? (i := 0) rfl))
  refine own_go st516 ?_
  refine own_go (B := T516.setTop (mkF m 103 #[.val (.ref a1), .val (.int (3 : Int32)), .val (.int (64 : Int32)), .val (.long (9223372036854775807 : Int64)), .second, .val (.int (64 : Int32))] [(.ref a1), (.int (4 : Int32)), (.ref a1)])) (fun t k => ?_) ?_
  · refine XS.aloadN X516.here hx rfl (hb hby d1_100) rfl rfl ?_
    refine XS.iconst X516.here hx rfl (hb hby d1_101) ?_
    refine XS.aloadN X516.here hx rfl (hb hby d1_102) rfl rfl ?_
    exact k
  obtain ⟨T528, X528, e528, st528⟩ := getF X516 hx hZ hown (host := "") (Or.inl (own_w hw 41 rfl)) Via.refl e516 U516 (g := (mkF m 103 #[.val (.ref a1), .val (.int (3 : Int32)), .val (.int (64 : Int32)), .val (.long (9223372036854775807 : Int64)), .second, .val (.int (64 : Int32))] [(.ref a1), (.int (4 : Int32)), (.ref a1)])) rfl rfl (hb hby d1_103)
  refine own_go st528 ?_
  refine own_go (B := T528.setTop (mkF m 107 #[.val (.ref a1), .val (.int (3 : Int32)), .val (.int (64 : Int32)), .val (.long (9223372036854775807 : Int64)), .second, .val (.int (64 : Int32))] [(.int (4096 : Int32)), (.ref a1)])) (fun t k => ?_) ?_
  · refine XS.ishl X528.here hx rfl (hb hby d1_106) rfl ?_
    exact k
  obtain ⟨T529, h529, k529, X529, e529, E529, A529, st529⟩ := newP X528 hx hZ (own_w hw 1 rfl) e528 (g := (mkF m 107 #[.val (.ref a1), .val (.int (3 : Int32)), .val (.int (64 : Int32)), .val (.long (9223372036854775807 : Int64)), .second, .val (.int (64 : Int32))] [(.int (4096 : Int32)), (.ref a1)])) rfl (hb hby d1_107) rfl (by decide) (cap := 4096) (by decide) (by decide) (by decide) (by decide)
  obtain ⟨b529, g529⟩ : ∃ z, z = h516.size := ⟨_, rfl⟩
  rw [← g529] at A529 st529
  have ne529_a1 : a1 ≠ b529 := Nat.ne_of_lt (Nat.lt_of_lt_of_le Q517.lt (Nat.le_of_eq g529.symm))
  have ne529_b456 : b456 ≠ b529 := Nat.ne_of_lt (Nat.lt_of_lt_of_le Q524.lt (Nat.le_of_eq g529.symm))
  have ne529_b479 : b479 ≠ b529 := Nat.ne_of_lt (Nat.lt_of_lt_of_le Q527.lt (Nat.le_of_eq g529.symm))
  have low529 : n0 ≤ b529 := Nat.le_trans Z516 (Nat.le_of_eq g529.symm)
  have sz529 : h0.size ≤ b529 := Nat.le_trans K516.1 (Nat.le_of_eq g529.symm)
  have Q530 : Exa Z h529 a1 OB := Q517.ext E529
  have Q531 : Fld Z h529 a1 OB "size" "I" (.int (0 : Int32)) := Q518.ext E529
  have Q532 : Fld Z h529 a1 OB "computations" "J" (.long (0 : Int64)) := Q519.ext E529
  have Q533 : Fld Z h529 a1 OB "cache" "[I" .null := Q520.ext E529
  have Q534 : Fld Z h529 a1 OB "variableCount" "I" (.int (3 : Int32)) := Q521.ext E529
  have Q535 : Fld Z h529 a1 OB "maxNodes" "I" (.int (64 : Int32)) := Q522.ext E529
  have Q536 : Fld Z h529 a1 OB "maxComputations" "J" (.long (9223372036854775807 : Int64)) := Q523.ext E529
  have Q537 : Arv Z h529 b456 k456 .int (256 : Int32) (own_I (List.replicate 256 0)) (.int (0 : Int32)) := Q524.ext E529
  have Q538 : Fld Z h529 a1 OB "nodes" "[I" (.ref b456) := Q525.ext E529
  have Q539 : Fld Z h529 a1 OB "buckets" "[I" (.ref b479) := Q526.ext E529
  have Q540 : Arv Z h529 b479 k479 .int (64 : Int32) (own_I (List.replicate 64 (-1 : Int32))) (.int (0 : Int32)) := Q527.ext E529
  have Q541 : Fld Z h529 a1 OB "cacheBits" "I" (.int (10 : Int32)) := U516.ext E529
  have Z529 : n0 ≤ h529.size := Nat.le_trans Z516 E529.1
  have K529 := K516.ext E529
  have V529 : Arv Z h529 b529 k529 .int (4096 : Int32) (own_I (List.replicate 4096 0)) (.int (0 : Int32)) := own_newI (Arv.new A529 (by decide))
  refine own_go st529 ?_
  obtain ⟨T542, h542, X542, e542, W542, st542⟩ := putF X529 hx hZ hown (host := "") (Or.inl (own_w hw 43 rfl)) Via.refl e529 Q533 Q530 (Or.inl (own_w hw 44 rfl)) (own_w hw 4 rfl) (ty := (.array .int)) (by decide) rfl rfl (g := (mkF m 109 #[.val (.ref a1), .val (.int (3 : Int32)), .val (.int (64 : Int32)), .val (.long (9223372036854775807 : Int64)), .second, .val (.int (64 : Int32))] [(.ref b529), (.ref a1)])) rfl rfl (hb hby d1_109)
  have Q543 : Exa Z h542 a1 OB := Q530.wr W542
  have Q544 : Fld Z h542 a1 OB "size" "I" (.int (0 : Int32)) := Q531.other W542 (Or.inr (slot_ne (Or.inl (own_w hw 46 rfl)) (Or.inl (own_w hw 44 rfl)) (by decide) (t := .int) (t' := (.array .int)) (by decide) (by decide)))
  have Q545 : Fld Z h542 a1 OB "computations" "J" (.long (0 : Int64)) := Q532.other W542 (Or.inr (slot_ne (Or.inl (own_w hw 123 rfl)) (Or.inl (own_w hw 44 rfl)) (by decide) (t := .long) (t' := (.array .int)) (by decide) (by decide)))
  have Q546 : Fld Z h542 a1 OB "variableCount" "I" (.int (3 : Int32)) := Q534.other W542 (Or.inr (slot_ne (Or.inr (own_w hw 14 rfl)) (Or.inl (own_w hw 44 rfl)) (by decide) (t := .int) (t' := (.array .int)) (by decide) (by decide)))
  have Q547 : Fld Z h542 a1 OB "maxNodes" "I" (.int (64 : Int32)) := Q535.other W542 (Or.inr (slot_ne (Or.inr (own_w hw 21 rfl)) (Or.inl (own_w hw 44 rfl)) (by decide) (t := .int) (t' := (.array .int)) (by decide) (by decide)))
  have Q548 : Fld Z h542 a1 OB "maxComputations" "J" (.long (9223372036854775807 : Int64)) := Q536.other W542 (Or.inr (slot_ne (Or.inr (own_w hw 23 rfl)) (Or.inl (own_w hw 44 rfl)) (by decide) (t := .long) (t' := (.array .int)) (by decide) (by decide)))
  have Q549 : Arv Z h542 b456 k456 .int (256 : Int32) (own_I (List.replicate 256 0)) (.int (0 : Int32)) := Q537.other W542 (Ne.symm ne456_a1)
  have Q550 : Fld Z h542 a1 OB "nodes" "[I" (.ref b456) := Q538.other W542 (Or.inr (slot_ne (Or.inl (own_w hw 25 rfl)) (Or.inl (own_w hw 44 rfl)) (by decide) (t := (.array .int)) (t' := (.array .int)) (by decide) (by decide)))
  have Q551 : Fld Z h542 a1 OB "buckets" "[I" (.ref b479) := Q539.other W542 (Or.inr (slot_ne (Or.inl (own_w hw 36 rfl)) (Or.inl (own_w hw 44 rfl)) (by decide) (t := (.array .int)) (t' := (.array .int)) (by decide) (by decide)))
  have Q552 : Arv Z h542 b479 k479 .int (64 : Int32) (own_I (List.replicate 64 (-1 : Int32))) (.int (0 : Int32)) := Q540.other W542 (Ne.symm ne479_a1)
  have Q553 : Fld Z h542 a1 OB "cacheBits" "I" (.int (10 : Int32)) := Q541.other W542 (Or.inr (slot_ne (Or.inl (own_w hw 42 rfl)) (Or.inl (own_w hw 44 rfl)) (by decide) (t := .int) (t' := (.array .int)) (by decide) (by decide)))
  have Q554 : Arv Z h542 b529 k529 .int (4096 : Int32) (own_I (List.replicate 4096 0)) (.int (0 : Int32)) := V529.other W542 (Ne.symm ne529_a1)
  have U542 : Fld Z h542 a1 OB "cache" "[I" (.ref b529) := Q533.same W542
  have Z542 : n0 ≤ h542.size := Nat.le_trans Z529 (Keep.of_wr W542).1
  have N542 := Fr.snoc X542 N516 g_a1
  have K542 := K529.wr W542 (Or.inl (List.mem_of_getElem? (i := 0) rfl))
  refine own_go st542 ?_
  refine own_go (B := T542.setTop (mkF m 113 #[.val (.ref a1), .val (.int (3 : Int32)), .val (.int (64 : Int32)), .val (.long (9223372036854775807 : Int64)), .second, .val (.int (64 : Int32))] [(.ref a1)])) (fun t k => ?_) ?_
  · refine XS.aloadN X542.here hx rfl (hb hby d1_112) rfl rfl ?_
    exact k
  obtain ⟨T555, X555, e555, st555⟩ := getF X542 hx hZ hown (host := "") (Or.inl (own_w hw 43 rfl)) Via.refl e542 U542 (g := (mkF m 113 #[.val (.ref a1), .val (.int (3 : Int32)), .val (.int (64 : Int32)), .val (.long (9223372036854775807 : Int64)), .second, .val (.int (64 : Int32))] [(.ref a1)])) rfl rfl (hb hby d1_113)
  refine own_go st555 ?_
  refine own_go (B := T555.setTop (mkF m 117 #[.val (.ref a1), .val (.int (3 : Int32)), .val (.int (64 : Int32)), .val (.long (9223372036854775807 : Int64)), .second, .val (.int (64 : Int32))] [(.int (-1 : Int32)), (.ref b529)])) (fun t k => ?_) ?_
  · refine XS.iconst X555.here hx rfl (hb hby d1_116) ?_
    exact k
  obtain ⟨_, _, ⟨T556, L556, k556, n556⟩, -, X556, ⟨Lc556, hQ556, l556, y556, z556⟩, st556⟩ := Jvm.LawKit.callS X555 hx (y := (⟨"java/util/Arrays", "fill", "([II)V"⟩ : MethodName)) hown (mvT hZ (own_w hw 37 rfl)) (mvT hZ (own_w hw 38 rfl)) (mvT hZ (own_w hw 39 rfl)) (mvT hZ (own_w hw 40 rfl)) (by decide) (backOf (W := 0) (rm6_4096 l Z a0 hw [] b529 k529 (List.replicate 4096 0) h542 n0 Z542 Q554 low529 (by simp)) hZ (own_w hw 40 rfl) (own_w hw 39 rfl) (by decide) (by decide)) (g := (mkF m 117 #[.val (.ref a1), .val (.int (3 : Int32)), .val (.int (64 : Int32)), .val (.long (9223372036854775807 : Int64)), .second, .val (.int (64 : Int32))] [(.int (-1 : Int32)), (.ref b529)])) rfl (by rw [hml]; rfl) (argsL := [(.ref b529), (.int (-1 : Int32))]) (rest := []) (lenOf pd_8 rfl) rfl (by show 2 * 0 + _ ≤ _; exact Nat.le_of_eq rfl) (hb hby d1_117) (fun _ _ => ⟨rfl, e555, (by decide : 3 + 0 ≤ _), (by decide : 4416 + 0 ≤ _)⟩)
  dsimp only [Pt.U, Pt.locs, Pt.cells, Pt.slots] at X556 l556 y556 z556 st556 hQ556
  subst l556 y556 z556
  obtain ⟨rfl, Nq556, Kq556, U556_0⟩ := hQ556
  have Q557 : Exa Z T556.heap a1 OB := Q543.keep Kq556
  have Q558 : Fld Z T556.heap a1 OB "size" "I" (.int (0 : Int32)) := Q544.keep Kq556 (ninS ne529_a1 nin0)
  have Q559 : Fld Z T556.heap a1 OB "computations" "J" (.long (0 : Int64)) := Q545.keep Kq556 (ninS ne529_a1 nin0)
  have Q560 : Fld Z T556.heap a1 OB "variableCount" "I" (.int (3 : Int32)) := Q546.keep Kq556 (ninS ne529_a1 nin0)
  have Q561 : Fld Z T556.heap a1 OB "maxNodes" "I" (.int (64 : Int32)) := Q547.keep Kq556 (ninS ne529_a1 nin0)
  have Q562 : Fld Z T556.heap a1 OB "maxComputations" "J" (.long (9223372036854775807 : Int64)) := Q548.keep Kq556 (ninS ne529_a1 nin0)
  have Q563 : Arv Z T556.heap b456 k456 .int (256 : Int32) (own_I (List.replicate 256 0)) (.int (0 : Int32)) := Q549.keep Kq556 (ninS ne529_b456 nin0)
  have Q564 : Fld Z T556.heap a1 OB "nodes" "[I" (.ref b456) := Q550.keep Kq556 (ninS ne529_a1 nin0)
  have Q565 : Fld Z T556.heap a1 OB "buckets" "[I" (.ref b479) := Q551.keep Kq556 (ninS ne529_a1 nin0)
  have Q566 : Arv Z T556.heap b479 k479 .int (64 : Int32) (own_I (List.replicate 64 (-1 : Int32))) (.int (0 : Int32)) := Q552.keep Kq556 (ninS ne529_b479 nin0)
  have Q567 : Fld Z T556.heap a1 OB "cacheBits" "I" (.int (10 : Int32)) := Q553.keep Kq556 (ninS ne529_a1 nin0)
  have Q568 : Fld Z T556.heap a1 OB "cache" "[I" (.ref b529) := U542.keep Kq556 (ninS ne529_a1 nin0)
  have Z556 : n0 ≤ T556.heap.size := Nat.le_trans Z542 Kq556.1
  have K556 : Keep h0 T556.heap [a1] := K542.trans Kq556 (allS (Or.inr sz529) all0)
  have N556 := Fr.app N542 Nq556
  refine own_go (B := T556.setTop (mkF m 120 #[.val (.ref a1), .val (.int (3 : Int32)), .val (.int (64 : Int32)), .val (.long (9223372036854775807 : Int64)), .second, .val (.int (64 : Int32))] [])) st556 ?_
  refine own_go (B := T556.setTop (mkF m 121 #[.val (.ref a1), .val (.int (3 : Int32)), .val (.int (64 : Int32)), .val (.long (9223372036854775807 : Int64)), .second, .val (.int (64 : Int32))] [(.ref a1)])) (fun t k => ?_) ?_
  · refine XS.aloadN X556.here hx rfl (hb hby d1_120) rfl rfl ?_
    exact k
  obtain ⟨T569, X569, e569, st569⟩ := getF X556 hx hZ hown (host := "") (Or.inl (own_w hw 24 rfl)) Via.refl rfl Q564 (g := (mkF m 121 #[.val (.ref a1), .val (.int (3 : Int32)), .val (.int (64 : Int32)), .val (.long (9223372036854775807 : Int64)), .second, .val (.int (64 : Int32))] [(.ref a1)])) rfl rfl (hb hby d1_121)
  refine own_go st569 ?_
  refine own_go (B := T569.setTop (mkF m 126 #[.val (.ref a1), .val (.int (3 : Int32)), .val (.int (64 : Int32)), .val (.long (9223372036854775807 : Int64)), .second, .val (.int (64 : Int32))] [(.int (3 : Int32)), (.int (0 : Int32)), (.ref b456)])) (fun t k => ?_) ?_
  · refine XS.iconst X569.here hx rfl (hb hby d1_124) ?_
    refine XS.iloadN X569.here hx rfl (hb hby d1_125) rfl ?_
    exact k
  obtain ⟨cl570, Ar570, q570, S570, M570, Ha570, G570⟩ := Q563
  have hin570 : ¬ ((0 : Int32) < 0 ∨ cl570.slots.size ≤ ((0 : Int32)).toNatClampNeg) := inb_of S570 ⟨by decide, by decide⟩
  obtain ⟨T570, h570, X570, e570, W570, st570⟩ := stI X569 hx hZ e569 Ar570 (j := (0 : Int32)) hin570 (g := (mkF m 126 #[.val (.ref a1), .val (.int (3 : Int32)), .val (.int (64 : Int32)), .val (.long (9223372036854775807 : Int64)), .second, .val (.int (64 : Int32))] [(.int (3 : Int32)), (.int (0 : Int32)), (.ref b456)])) rfl rfl (hb hby d1_126)
  have Q571 : Exa Z h570 a1 OB := Q557.wr W570
  have Q572 : Fld Z h570 a1 OB "size" "I" (.int (0 : Int32)) := Q558.other W570 (Or.inl ne456_a1)
  have Q573 : Fld Z h570 a1 OB "computations" "J" (.long (0 : Int64)) := Q559.other W570 (Or.inl ne456_a1)
  have Q574 : Fld Z h570 a1 OB "variableCount" "I" (.int (3 : Int32)) := Q560.other W570 (Or.inl ne456_a1)
  have Q575 : Fld Z h570 a1 OB "maxNodes" "I" (.int (64 : Int32)) := Q561.other W570 (Or.inl ne456_a1)
  have Q576 : Fld Z h570 a1 OB "maxComputations" "J" (.long (9223372036854775807 : Int64)) := Q562.other W570 (Or.inl ne456_a1)
  have Q577 : Fld Z h570 a1 OB "nodes" "[I" (.ref b456) := Q564.other W570 (Or.inl ne456_a1)
  have Q578 : Fld Z h570 a1 OB "buckets" "[I" (.ref b479) := Q565.other W570 (Or.inl ne456_a1)
  have Q579 : Arv Z h570 b479 k479 .int (64 : Int32) (own_I (List.replicate 64 (-1 : Int32))) (.int (0 : Int32)) := Q566.other W570 (Ne.symm ne479_b456)
  have Q580 : Fld Z h570 a1 OB "cacheBits" "I" (.int (10 : Int32)) := Q567.other W570 (Or.inl ne456_a1)
  have Q581 : Fld Z h570 a1 OB "cache" "[I" (.ref b529) := Q568.other W570 (Or.inl ne456_a1)
  have Q582 : Arv Z h570 b529 k529 .int (4096 : Int32) (own_I (List.replicate 4096 (-1 : Int32))) (.int (0 : Int32)) := U556_0.other W570 (Ne.symm ne529_b456)
  have U570 : Arv Z h570 b456 k456 .int (256 : Int32) (own_I ((List.replicate 256 0).set (0) (3 : Int32))) (.int (0 : Int32)) := own_arvI (Arv.set Ar570 q570 S570 M570 Ha570 G570 rfl W570 (0) rfl (by simp only [own_lenI, List.length_set, List.length_replicate]; decide))
  have Z570 : n0 ≤ h570.size := Nat.le_trans Z556 (Keep.of_wr W570).1
  have N570 := Fr.snoc X570 N556 low456
  have K570 := K556.wr W570 (Or.inr sz456)
  refine own_go st570 ?_
  refine own_go (B := T570.setTop (mkF m 128 #[.val (.ref a1), .val (.int (3 : Int32)), .val (.int (64 : Int32)), .val (.long (9223372036854775807 : Int64)), .second, .val (.int (64 : Int32))] [(.ref a1)])) (fun t k => ?_) ?_
  · refine XS.aloadN X570.here hx rfl (hb hby d1_127) rfl rfl ?_
    exact k
  obtain ⟨T583, X583, e583, st583⟩ := getF X570 hx hZ hown (host := "") (Or.inl (own_w hw 24 rfl)) Via.refl e570 Q577 (g := (mkF m 128 #[.val (.ref a1), .val (.int (3 : Int32)), .val (.int (64 : Int32)), .val (.long (9223372036854775807 : Int64)), .second, .val (.int (64 : Int32))] [(.ref a1)])) rfl rfl (hb hby d1_128)
  refine own_go st583 ?_
  refine own_go (B := T583.setTop (mkF m 133 #[.val (.ref a1), .val (.int (3 : Int32)), .val (.int (64 : Int32)), .val (.long (9223372036854775807 : Int64)), .second, .val (.int (64 : Int32))] [(.int (3 : Int32)), (.int (4 : Int32)), (.ref b456)])) (fun t k => ?_) ?_
  · refine XS.iconst X583.here hx rfl (hb hby d1_131) ?_
    refine XS.iloadN X583.here hx rfl (hb hby d1_132) rfl ?_
    exact k
  obtain ⟨cl584, Ar584, q584, S584, M584, Ha584, G584⟩ := U570
  have hin584 : ¬ ((4 : Int32) < 0 ∨ cl584.slots.size ≤ ((4 : Int32)).toNatClampNeg) := inb_of S584 ⟨by decide, by decide⟩
  obtain ⟨T584, h584, X584, e584, W584, st584⟩ := stI X583 hx hZ e583 Ar584 (j := (4 : Int32)) hin584 (g := (mkF m 133 #[.val (.ref a1), .val (.int (3 : Int32)), .val (.int (64 : Int32)), .val (.long (9223372036854775807 : Int64)), .second, .val (.int (64 : Int32))] [(.int (3 : Int32)), (.int (4 : Int32)), (.ref b456)])) rfl rfl (hb hby d1_133)
  have Q585 : Exa Z h584 a1 OB := Q571.wr W584
  have Q586 : Fld Z h584 a1 OB "size" "I" (.int (0 : Int32)) := Q572.other W584 (Or.inl ne456_a1)
  have Q587 : Fld Z h584 a1 OB "computations" "J" (.long (0 : Int64)) := Q573.other W584 (Or.inl ne456_a1)
  have Q588 : Fld Z h584 a1 OB "variableCount" "I" (.int (3 : Int32)) := Q574.other W584 (Or.inl ne456_a1)
  have Q589 : Fld Z h584 a1 OB "maxNodes" "I" (.int (64 : Int32)) := Q575.other W584 (Or.inl ne456_a1)
  have Q590 : Fld Z h584 a1 OB "maxComputations" "J" (.long (9223372036854775807 : Int64)) := Q576.other W584 (Or.inl ne456_a1)
  have Q591 : Fld Z h584 a1 OB "nodes" "[I" (.ref b456) := Q577.other W584 (Or.inl ne456_a1)
  have Q592 : Fld Z h584 a1 OB "buckets" "[I" (.ref b479) := Q578.other W584 (Or.inl ne456_a1)
  have Q593 : Arv Z h584 b479 k479 .int (64 : Int32) (own_I (List.replicate 64 (-1 : Int32))) (.int (0 : Int32)) := Q579.other W584 (Ne.symm ne479_b456)
  have Q594 : Fld Z h584 a1 OB "cacheBits" "I" (.int (10 : Int32)) := Q580.other W584 (Or.inl ne456_a1)
  have Q595 : Fld Z h584 a1 OB "cache" "[I" (.ref b529) := Q581.other W584 (Or.inl ne456_a1)
  have Q596 : Arv Z h584 b529 k529 .int (4096 : Int32) (own_I (List.replicate 4096 (-1 : Int32))) (.int (0 : Int32)) := Q582.other W584 (Ne.symm ne529_b456)
  have U584 : Arv Z h584 b456 k456 .int (256 : Int32) (own_I (((List.replicate 256 0).set (0) (3 : Int32)).set (4) (3 : Int32))) (.int (0 : Int32)) := own_arvI (Arv.set Ar584 q584 S584 M584 Ha584 G584 rfl W584 (4) rfl (by simp only [own_lenI, List.length_set, List.length_replicate]; decide))
  have Z584 : n0 ≤ h584.size := Nat.le_trans Z570 (Keep.of_wr W584).1
  have N584 := Fr.snoc X584 N570 low456
  have K584 := K570.wr W584 (Or.inr sz456)
  refine own_go st584 ?_
  refine own_go (B := T584.setTop (mkF m 136 #[.val (.ref a1), .val (.int (3 : Int32)), .val (.int (64 : Int32)), .val (.long (9223372036854775807 : Int64)), .second, .val (.int (64 : Int32))] [(.int (2 : Int32)), (.ref a1)])) (fun t k => ?_) ?_
  · refine XS.aloadN X584.here hx rfl (hb hby d1_134) rfl rfl ?_
    refine XS.iconst X584.here hx rfl (hb hby d1_135) ?_
    exact k
  obtain ⟨T597, h597, X597, e597, W597, st597⟩ := putF X584 hx hZ hown (host := "") (Or.inl (own_w hw 45 rfl)) Via.refl e584 Q586 Q585 (Or.inl (own_w hw 46 rfl)) (own_w hw 4 rfl) (ty := .int) (by decide) rfl rfl (g := (mkF m 136 #[.val (.ref a1), .val (.int (3 : Int32)), .val (.int (64 : Int32)), .val (.long (9223372036854775807 : Int64)), .second, .val (.int (64 : Int32))] [(.int (2 : Int32)), (.ref a1)])) rfl rfl (hb hby d1_136)
  have Q598 : Exa Z h597 a1 OB := Q585.wr W597
  have Q599 : Fld Z h597 a1 OB "computations" "J" (.long (0 : Int64)) := Q587.other W597 (Or.inr (slot_ne (Or.inl (own_w hw 123 rfl)) (Or.inl (own_w hw 46 rfl)) (by decide) (t := .long) (t' := .int) (by decide) (by decide)))
  have Q600 : Fld Z h597 a1 OB "variableCount" "I" (.int (3 : Int32)) := Q588.other W597 (Or.inr (slot_ne (Or.inr (own_w hw 14 rfl)) (Or.inl (own_w hw 46 rfl)) (by decide) (t := .int) (t' := .int) (by decide) (by decide)))
  have Q601 : Fld Z h597 a1 OB "maxNodes" "I" (.int (64 : Int32)) := Q589.other W597 (Or.inr (slot_ne (Or.inr (own_w hw 21 rfl)) (Or.inl (own_w hw 46 rfl)) (by decide) (t := .int) (t' := .int) (by decide) (by decide)))
  have Q602 : Fld Z h597 a1 OB "maxComputations" "J" (.long (9223372036854775807 : Int64)) := Q590.other W597 (Or.inr (slot_ne (Or.inr (own_w hw 23 rfl)) (Or.inl (own_w hw 46 rfl)) (by decide) (t := .long) (t' := .int) (by decide) (by decide)))
  have Q603 : Fld Z h597 a1 OB "nodes" "[I" (.ref b456) := Q591.other W597 (Or.inr (slot_ne (Or.inl (own_w hw 25 rfl)) (Or.inl (own_w hw 46 rfl)) (by decide) (t := (.array .int)) (t' := .int) (by decide) (by decide)))
  have Q604 : Fld Z h597 a1 OB "buckets" "[I" (.ref b479) := Q592.other W597 (Or.inr (slot_ne (Or.inl (own_w hw 36 rfl)) (Or.inl (own_w hw 46 rfl)) (by decide) (t := (.array .int)) (t' := .int) (by decide) (by decide)))
  have Q605 : Arv Z h597 b479 k479 .int (64 : Int32) (own_I (List.replicate 64 (-1 : Int32))) (.int (0 : Int32)) := Q593.other W597 (Ne.symm ne479_a1)
  have Q606 : Fld Z h597 a1 OB "cacheBits" "I" (.int (10 : Int32)) := Q594.other W597 (Or.inr (slot_ne (Or.inl (own_w hw 42 rfl)) (Or.inl (own_w hw 46 rfl)) (by decide) (t := .int) (t' := .int) (by decide) (by decide)))
  have Q607 : Fld Z h597 a1 OB "cache" "[I" (.ref b529) := Q595.other W597 (Or.inr (slot_ne (Or.inl (own_w hw 44 rfl)) (Or.inl (own_w hw 46 rfl)) (by decide) (t := (.array .int)) (t' := .int) (by decide) (by decide)))
  have Q608 : Arv Z h597 b529 k529 .int (4096 : Int32) (own_I (List.replicate 4096 (-1 : Int32))) (.int (0 : Int32)) := Q596.other W597 (Ne.symm ne529_a1)
  have Q609 : Arv Z h597 b456 k456 .int (256 : Int32) (own_I (((List.replicate 256 0).set (0) (3 : Int32)).set (4) (3 : Int32))) (.int (0 : Int32)) := U584.other W597 (Ne.symm ne456_a1)
  have U597 : Fld Z h597 a1 OB "size" "I" (.int (2 : Int32)) := Q586.same W597
  have Z597 : n0 ≤ h597.size := Nat.le_trans Z584 (Keep.of_wr W597).1
  have N597 := Fr.snoc X597 N584 g_a1
  have K597 := K584.wr W597 (Or.inl (List.mem_of_getElem? (i := 0) rfl))
  refine own_go st597 ?_
  obtain ⟨fs, hr, hrun, hended, hW, hsame⟩ := X597.leave (v := none) (fun _ => rfl)
  refine ⟨_, _, ?_, hrun, hended, _, _, rfl, ?_, ⟨_, rfl⟩, hW, hsame.mono (by decide) (by decide)⟩
  · show Steps p.tables e below (T597.setTop (mkF m 139 #[.val (.ref a1), .val (.int (3 : Int32)), .val (.int (64 : Int32)), .val (.long (9223372036854775807 : Int64)), .second, .val (.int (64 : Int32))] [])) _
    exact X597.returnOut hx Bd.returns (hb hby d1_139) hr
  · show Qrm1 Z a1 h0 n0 _ T597.heap _
    rw [e597]
    exact ⟨b456, b479, b529, k456, k479, k529, (((List.replicate 256 0).set (0) (3 : Int32)).set (4) (3 : Int32)), (List.replicate 64 (-1 : Int32)), (List.replicate 4096 (-1 : Int32)), rfl, N597, K597, sz456, sz479, sz529, ne456_a1, ne479_a1, ne529_a1, ne479_b456, ne529_b456, ne529_b479, Q598, Q600, Q602, Q603, Q604, Q606, Q607, U597, Q599, Q609, Q605, Q608, own_inv0⟩
def own_bv (i : Int32) (q : Int → Bool) : Bool := if i = 0 then false else if i = 1 then true else if i = 2 then q 0 else if i = 3 then q 1 else q 2
theorem own_rem5 (x : Int32) : ((x &&& (2147483647 : Int32)) % (5 : Int32)) = (0 : Int32) ∨ ((x &&& (2147483647 : Int32)) % (5 : Int32)) = (1 : Int32) ∨ ((x &&& (2147483647 : Int32)) % (5 : Int32)) = (2 : Int32) ∨ ((x &&& (2147483647 : Int32)) % (5 : Int32)) = (3 : Int32) ∨ ((x &&& (2147483647 : Int32)) % (5 : Int32)) = (4 : Int32) := by
  have h1 := (c_and x 2147483647 (by decide)).1
  have h2 := (c_irem (x &&& (2147483647 : Int32)) 5 5 rfl).1 h1
  simp only [← Int32.toInt_inj]
  simp only [Int32.reduceToInt]
  omega
theorem own_in5 {i : Int32} (h : i = (0 : Int32) ∨ i = (1 : Int32) ∨ i = (2 : Int32) ∨ i = (3 : Int32) ∨ i = (4 : Int32)) : ¬ i < 0 ∧ i < 5 := by
  rcases h with rfl | rfl | rfl | rfl | rfl <;> decide
theorem own_opd {ns0 ns1 ns2 ns3 cs bs1 bs2 bs3 : List Int32} {n0 n1 n2 n3 : Nat} {s1 s2 s3 r0 r1 r2 i : Int32} (W0 : own_WF ns0 n0) (P0 : own_NP ns0 cs n0 (0 : Int32) (0 : Int32) (1 : Int32) ns1 bs1 s1 n1 r0) (P1 : own_NP ns1 cs n1 (1 : Int32) (0 : Int32) (1 : Int32) ns2 bs2 s2 n2 r1) (P2 : own_NP ns2 cs n2 (2 : Int32) (0 : Int32) (1 : Int32) ns3 bs3 s3 n3 r2)
    (h : i = (0 : Int32) ∨ i = (1 : Int32) ∨ i = (2 : Int32) ∨ i = (3 : Int32) ∨ i = (4 : Int32)) :
    (0 ≤ ([(0 : Int32), (1 : Int32), r0, r1, r2].getD i.toNatClampNeg 0).toInt ∧ ([(0 : Int32), (1 : Int32), r0, r1, r2].getD i.toNatClampNeg 0).toInt < n3) ∧ ∀ q, own_val ns3 q ([(0 : Int32), (1 : Int32), r0, r1, r2].getD i.toNatClampNeg 0).toInt.toNat = own_bv i q := by
  obtain ⟨I1, -, g1, l1, u1, k1, -, e1⟩ := P0
  obtain ⟨I2, -, g2, l2, u2, k2, -, e2⟩ := P1
  obtain ⟨I3, -, g3, l3, u3, k3, -, e3⟩ := P2
  have hn := W0.2.1
  rcases h with rfl | rfl | rfl | rfl | rfl
  · exact ⟨⟨by show (0 : Int) ≤ 0; omega, by show (0 : Int) < n3; omega⟩, fun q => rfl⟩
  · exact ⟨⟨by show (0 : Int) ≤ 1; omega, by show (1 : Int) < n3; omega⟩, fun q => rfl⟩
  · refine ⟨⟨k1.1, by show r0.toInt < n3; omega⟩, fun q => ?_⟩
    show own_val ns3 q r0.toInt.toNat = q 0
    rw [own_val_agree I2.1 g3 q (by omega), own_val_agree I1.1 g2 q (by omega), e1 q]
    show (if q 0 = true then true else false) = q 0
    cases q 0 <;> rfl
  · refine ⟨⟨k2.1, by show r1.toInt < n3; omega⟩, fun q => ?_⟩
    show own_val ns3 q r1.toInt.toNat = q 1
    rw [own_val_agree I2.1 g3 q (by omega), e2 q]
    show (if q 1 = true then true else false) = q 1
    cases q 1 <;> rfl
  · refine ⟨k3, fun q => ?_⟩
    show own_val ns3 q r2.toInt.toNat = q 2
    rw [e3 q]
    show (if q 2 = true then true else false) = q 2
    cases q 2 <;> rfl
theorem own_nb (v : Int32) : nar .boolean v = 0 ∨ nar .boolean v = 1 := and_one v
theorem own_nb2 {x : Int32} (h : x = 0 ∨ x = 1) : nar .boolean x = if decide (¬ x = 0) then 1 else 0 := by rcases h with rfl | rfl <;> decide
theorem own_bvv {i r0 r1 r2 : Int32} (h : i = (0 : Int32) ∨ i = (1 : Int32) ∨ i = (2 : Int32) ∨ i = (3 : Int32) ∨ i = (4 : Int32)) (h0 : r0 = 0 ∨ r0 = 1) (h1 : r1 = 0 ∨ r1 = 1) (h2 : r2 = 0 ∨ r2 = 1) : own_vv i r0 r1 r2 = if own_bv i (own_rho [r0, r1, r2]) then (1 : Int32) else (0 : Int32) := by
  rcases h with rfl | rfl | rfl | rfl | rfl
  · rfl
  · rfl
  · exact own_nb2 h0
  · exact own_nb2 h1
  · exact own_nb2 h2
theorem own_opx (k : Int32) (x y : Bool) : frm26 k (if x then (1 : Int32) else (0 : Int32)) (if y then (1 : Int32) else (0 : Int32)) = if own_cop k x y then (1 : Int32) else (0 : Int32) := by
  unfold frm26 own_cop
  by_cases c0 : k = 0
  · subst c0; cases x <;> cases y <;> rfl
  · by_cases c1 : k = 1
    · subst c1; cases x <;> cases y <;> rfl
    · by_cases c2 : k = 2
      · subst c2; cases x <;> cases y <;> rfl
      · simp only [if_neg c0, if_neg c1, if_neg c2]
        cases x <;> cases y <;> rfl
theorem own_inner {ns3 ns4 ns5 bs4 cs4 bs5 cs5 : List Int32} {n3 n4 n5 : Nat} {c3 c4 c5 : Int64} {s4 s5 ia ib oa ob inner h g oc outer v0 v1 v2 : Int32} (C1 : own_CP 14 ns3 n3 c3 (own_cop h) oa ob ns4 bs4 cs4 s4 c4 n4 inner) (C2 : own_CP 14 ns4 n4 c4 (own_cop g) inner oc ns5 bs5 cs5 s5 c5 n5 outer)
    (A : ∀ q, own_val ns3 q oa.toInt.toNat = own_bv ia q) (B : ∀ q, own_val ns3 q ob.toInt.toNat = own_bv ib q) (ha : ia = (0 : Int32) ∨ ia = (1 : Int32) ∨ ia = (2 : Int32) ∨ ia = (3 : Int32) ∨ ia = (4 : Int32)) (hb : ib = (0 : Int32) ∨ ib = (1 : Int32) ∨ ib = (2 : Int32) ∨ ib = (3 : Int32) ∨ ib = (4 : Int32)) :
    (if own_val ns5 (own_rho [nar .boolean v0, nar .boolean v1, nar .boolean v2]) inner.toInt.toNat then (1 : Int32) else (0 : Int32)) = frm26 h (own_vv ia (nar .boolean v0) (nar .boolean v1) (nar .boolean v2)) (own_vv ib (nar .boolean v0) (nar .boolean v1) (nar .boolean v2)) := by
  obtain ⟨I4, -, -, -, -, -, k4, e4⟩ := C1
  obtain ⟨-, -, g5, -⟩ := C2
  rw [own_bvv ha (own_nb _) (own_nb _) (own_nb _), own_bvv hb (own_nb _) (own_nb _) (own_nb _), own_opx, own_val_agree I4.1 g5 _ (by omega), e4, A, B]
theorem own_outer {ns3 ns4 ns5 bs4 cs4 bs5 cs5 : List Int32} {n3 n4 n5 : Nat} {c3 c4 c5 : Int64} {s4 s5 ia ib ic oa ob inner h g oc outer v0 v1 v2 : Int32} (W : own_WF ns3 n3) (C1 : own_CP 14 ns3 n3 c3 (own_cop h) oa ob ns4 bs4 cs4 s4 c4 n4 inner) (C2 : own_CP 14 ns4 n4 c4 (own_cop g) inner oc ns5 bs5 cs5 s5 c5 n5 outer)
    (A : ∀ q, own_val ns3 q oa.toInt.toNat = own_bv ia q) (B : ∀ q, own_val ns3 q ob.toInt.toNat = own_bv ib q) (C : (0 ≤ oc.toInt ∧ oc.toInt < n3) ∧ ∀ q, own_val ns3 q oc.toInt.toNat = own_bv ic q) (ha : ia = (0 : Int32) ∨ ia = (1 : Int32) ∨ ia = (2 : Int32) ∨ ia = (3 : Int32) ∨ ia = (4 : Int32)) (hb : ib = (0 : Int32) ∨ ib = (1 : Int32) ∨ ib = (2 : Int32) ∨ ib = (3 : Int32) ∨ ib = (4 : Int32)) (hc : ic = (0 : Int32) ∨ ic = (1 : Int32) ∨ ic = (2 : Int32) ∨ ic = (3 : Int32) ∨ ic = (4 : Int32)) :
    (if own_val ns5 (own_rho [nar .boolean v0, nar .boolean v1, nar .boolean v2]) outer.toInt.toNat then (1 : Int32) else (0 : Int32)) = frm26 g (frm26 h (own_vv ia (nar .boolean v0) (nar .boolean v1) (nar .boolean v2)) (own_vv ib (nar .boolean v0) (nar .boolean v1) (nar .boolean v2))) (own_vv ic (nar .boolean v0) (nar .boolean v1) (nar .boolean v2)) := by
  obtain ⟨I4, -, g4, -, -, -, k4, e4⟩ := C1
  obtain ⟨-, -, g5, -, -, -, -, e5⟩ := C2
  rw [own_bvv ha (own_nb _) (own_nb _) (own_nb _), own_bvv hb (own_nb _) (own_nb _) (own_nb _), own_bvv hc (own_nb _) (own_nb _) (own_nb _), own_opx, own_opx, e5, e4, A, B, own_val_agree W g4 _ (by omega), C.2]
def Qrm0 (Z : State) (p1 : Int32) (p2 : Int32) (p3 : Int32) (p4 : Int32) (p5 : Int32) (h0 : Heap) (n0 : Nat) (v : Option Value) (h : Heap) (L : List Loc) : Prop := v = some (.int (1 : Int32)) ∧ Fr n0 L
theorem efrm0 (m : MethodId) (x0 : Int32) (x1 : Int32) (x2 : Int32) (x3 : Int32) (x4 : Int32) : entryFrame m #[(.int x0), (.int x1), (.int x2), (.int x3), (.int x4)] maxLocals = mkF m 0 #[.val (.int x0), .val (.int x1), .val (.int x2), .val (.int x3), .val (.int x4), .unset, .unset, .unset, .unset, .unset, .unset, .unset, .unset, .unset, .unset, .unset, .unset, .unset, .unset] [] := by first | (simp [entryFrame, mkF, argsToLocals, Value.category, maxLocals]; done) | rfl
set_option maxRecDepth 65536 in
set_option maxHeartbeats 40000000 in
theorem rm0 (l : Launch) (Z : State) (a0 : Array Value) (hw : ∀ d ∈ tables_1, d.before a0 Z = true) (ws : List Jvm.Cond) (p1 : Int32) (p2 : Int32) (p3 : Int32) (p4 : Int32) (p5 : Int32) (h0 : Heap) (n0 : Nat) (Z0 : n0 ≤ h0.size)  :
    MetFree l x (head1 (Jvm.Cond.code x code maxLocals ret :: ws) room_1) (fun a U => a = #[(.int p1), (.int p2), (.int p3), (.int p4), (.int p5)] ∧ Z.Warmed39 U.vm ∧ U.heap = h0) (fun _ _ _ _ _ => True) (fun _ U o U' => ∃ v L, o = .returned v ∧ Qrm0 Z p1 p2 p3 p4 p5 h0 n0 v U'.heap L ∧ FrameEnd U o U' L room_1.cells room_1.slots) := by
  refine MetFree.of_bodySF (plainFor_of_name pn_1) hisR ?_
  intro p e s m args below meth c s₁ Bd hml0 hP hK
  obtain ⟨rfl, hZ, hh⟩ := hP
  have hx := Bd.exec
  have hby := Bd.bytes
  have hml : c.maxLocals = 19 := hml0
  have hown : s.vm.findClass "com/example/decider/decider/logic/bdd/BddEvaluatePinLaw" = some m.cls := findClass_of_methodNamed Bd.named
  have hnm := (name_of_methodNamed Bd.named Bd.method).1
  have X0 : Stand p l e room_1 s m #[(.int p1), (.int p2), (.int p3), (.int p4), (.int p5)] below meth c s₁ [] 0 0 := Stand.of_body Bd
  have e0 : s₁.heap = h0 := by rw [← hh, Bd.state]; rfl
  have N0 := Fr.nil n0
  have K0 : Keep h0 h0 [] := Keep.refl h0 _
  refine own_go (B := s₁.setTop (mkF m 0 #[.val (.int p1), .val (.int p2), .val (.int p3), .val (.int p4), .val (.int p5), .unset, .unset, .unset, .unset, .unset, .unset, .unset, .unset, .unset, .unset, .unset, .unset, .unset, .unset] [])) (fun t k => castTop (efrm0 m p1 p2 p3 p4 p5) k) ?_
  refine own_go (B := s₁.setTop (mkF m 1 #[.val (.int p1), .val (.int p2), .val (.int p3), .val (.int p4), .val (.int p5), .unset, .unset, .unset, .unset, .unset, .unset, .unset, .unset, .unset, .unset, .unset, .unset, .unset, .unset] [(.int (3 : Int32))])) (fun t k => ?_) ?_
  · refine XS.iconst X0.here hx rfl (hb hby at_0) ?_
    exact k
  obtain ⟨T610, h610, k610, X610, e610, E610, A610, st610⟩ := newP X0 hx hZ (own_w hw 0 rfl) e0 (g := (mkF m 1 #[.val (.int p1), .val (.int p2), .val (.int p3), .val (.int p4), .val (.int p5), .unset, .unset, .unset, .unset, .unset, .unset, .unset, .unset, .unset, .unset, .unset, .unset, .unset, .unset] [(.int (3 : Int32))])) rfl (hb hby at_1) rfl (by decide) (cap := 3) (by decide) (by decide) (by decide) (by decide)
  obtain ⟨b610, g610⟩ : ∃ z, z = h0.size := ⟨_, rfl⟩
  rw [← g610] at A610 st610
  have low610 : n0 ≤ b610 := Nat.le_trans Z0 (Nat.le_of_eq g610.symm)
  have Z610 : n0 ≤ h610.size := Nat.le_trans Z0 E610.1
  have V610 : Arv Z h610 b610 k610 .boolean (3 : Int32) [(.int (0 : Int32)), (.int (0 : Int32)), (.int (0 : Int32))] (.int (0 : Int32)) := (Arv.new A610 (by decide)).pad (pad_rep [] (.int (0 : Int32)) 3)
  refine own_go st610 ?_
  refine own_go (B := T610.setTop (mkF m 12 #[.val (.int p1), .val (.int p2), .val (.int p3), .val (.int p4), .val (.int p5), .val (.ref b610), .unset, .unset, .unset, .unset, .unset, .unset, .unset, .unset, .unset, .unset, .unset, .unset, .unset] [(.int (p5 &&& (1 : Int32))), (.int (0 : Int32)), (.ref b610)])) (fun t k => ?_) ?_
  · refine XS.astore X610.here hx rfl (hb hby at_3) rfl rfl (l' := #[.val (.int p1), .val (.int p2), .val (.int p3), .val (.int p4), .val (.int p5), .val (.ref b610), .unset, .unset, .unset, .unset, .unset, .unset, .unset, .unset, .unset, .unset, .unset, .unset, .unset]) rfl ?_
    refine XS.aload X610.here hx rfl (hb hby at_5) rfl rfl ?_
    refine XS.iconst X610.here hx rfl (hb hby at_7) ?_
    refine XS.iload X610.here hx rfl (hb hby at_8) rfl ?_
    refine XS.iconst X610.here hx rfl (hb hby at_10) ?_
    refine XS.iand X610.here hx rfl (hb hby at_11) rfl ?_
    exact k
  refine own_go (B := T610.setTop (mkF m 20 #[.val (.int p1), .val (.int p2), .val (.int p3), .val (.int p4), .val (.int p5), .val (.ref b610), .unset, .unset, .unset, .unset, .unset, .unset, .unset, .unset, .unset, .unset, .unset, .unset, .unset] [(.int (if (p5 &&& (1 : Int32)) = (0 : Int32) then (0 : Int32) else (1 : Int32))), (.int (0 : Int32)), (.ref b610)])) (fun t k => ?_) ?_
  · by_cases hc12_611 : (p5 &&& (1 : Int32)) = (0 : Int32)
    · show Steps p.tables e below (T610.setTop (mkF m 12 #[.val (.int p1), .val (.int p2), .val (.int p3), .val (.int p4), .val (.int p5), .val (.ref b610), .unset, .unset, .unset, .unset, .unset, .unset, .unset, .unset, .unset, .unset, .unset, .unset, .unset] [(.int (p5 &&& (1 : Int32))), (.int (0 : Int32)), (.ref b610)])) _
      refine XS.ifYes X610.here hx rfl (pc0 := 12) (pc' := 19) rfl (hb hby at_12) rfl ((if0 _ _).trans (teq hc12_611).1) (by decide) (by decide) ?_
      refine XS.iconst X610.here hx rfl (hb hby at_19) ?_
      show Steps p.tables e below (T610.setTop (mkF m 20 #[.val (.int p1), .val (.int p2), .val (.int p3), .val (.int p4), .val (.int p5), .val (.ref b610), .unset, .unset, .unset, .unset, .unset, .unset, .unset, .unset, .unset, .unset, .unset, .unset, .unset] [(.int (0 : Int32)), (.int (0 : Int32)), (.ref b610)])) _
      exact castTop (by first | (simp only [if_pos hc12_611]; done) | rfl) k
    · show Steps p.tables e below (T610.setTop (mkF m 12 #[.val (.int p1), .val (.int p2), .val (.int p3), .val (.int p4), .val (.int p5), .val (.ref b610), .unset, .unset, .unset, .unset, .unset, .unset, .unset, .unset, .unset, .unset, .unset, .unset, .unset] [(.int (p5 &&& (1 : Int32))), (.int (0 : Int32)), (.ref b610)])) _
      refine XS.ifNo X610.here hx rfl (hb hby at_12) rfl ((if0 _ _).trans (feq hc12_611).1) ?_
      refine XS.iconst X610.here hx rfl (hb hby at_15) ?_
      refine XS.goto X610.here hx rfl (pc0 := 16) (pc' := 20) rfl (hb hby at_16) (by decide) (by decide) ?_
      show Steps p.tables e below (T610.setTop (mkF m 20 #[.val (.int p1), .val (.int p2), .val (.int p3), .val (.int p4), .val (.int p5), .val (.ref b610), .unset, .unset, .unset, .unset, .unset, .unset, .unset, .unset, .unset, .unset, .unset, .unset, .unset] [(.int (1 : Int32)), (.int (0 : Int32)), (.ref b610)])) _
      exact castTop (by first | (simp only [if_neg hc12_611]; done) | rfl) k
  obtain ⟨v0, h_v0⟩ : ∃ z, z = (if (p5 &&& (1 : Int32)) = (0 : Int32) then (0 : Int32) else (1 : Int32)) := ⟨_, rfl⟩
  rw [← h_v0]
  obtain ⟨cl612, Ar612, q612, S612, M612, Ha612, G612⟩ := V610
  have hin612 : ¬ ((0 : Int32) < 0 ∨ cl612.slots.size ≤ ((0 : Int32)).toNatClampNeg) := inb_of S612 ⟨by decide, by decide⟩
  obtain ⟨T612, h612, X612, e612, W612, st612⟩ := stZ X610 hx hZ e610 Ar612 (j := (0 : Int32)) hin612 (g := (mkF m 20 #[.val (.int p1), .val (.int p2), .val (.int p3), .val (.int p4), .val (.int p5), .val (.ref b610), .unset, .unset, .unset, .unset, .unset, .unset, .unset, .unset, .unset, .unset, .unset, .unset, .unset] [(.int v0), (.int (0 : Int32)), (.ref b610)])) rfl rfl (hb hby at_20)
  have U612 : Arv Z h612 b610 k610 .boolean (3 : Int32) [(.int (nar .boolean v0)), (.int (0 : Int32)), (.int (0 : Int32))] (.int (0 : Int32)) := Arv.set Ar612 q612 S612 M612 Ha612 G612 (fits_nar_bool _) W612 0 rfl (Nat.le_of_ble_eq_true rfl)
  have Z612 : n0 ≤ h612.size := Nat.le_trans Z610 (Keep.of_wr W612).1
  have N612 := Fr.snoc X612 N0 low610
  refine own_go st612 ?_
  refine own_go (B := T612.setTop (mkF m 28 #[.val (.int p1), .val (.int p2), .val (.int p3), .val (.int p4), .val (.int p5), .val (.ref b610), .unset, .unset, .unset, .unset, .unset, .unset, .unset, .unset, .unset, .unset, .unset, .unset, .unset] [(.int (p5 &&& (2 : Int32))), (.int (1 : Int32)), (.ref b610)])) (fun t k => ?_) ?_
  · refine XS.aload X612.here hx rfl (hb hby at_21) rfl rfl ?_
    refine XS.iconst X612.here hx rfl (hb hby at_23) ?_
    refine XS.iload X612.here hx rfl (hb hby at_24) rfl ?_
    refine XS.iconst X612.here hx rfl (hb hby at_26) ?_
    refine XS.iand X612.here hx rfl (hb hby at_27) rfl ?_
    exact k
  refine own_go (B := T612.setTop (mkF m 36 #[.val (.int p1), .val (.int p2), .val (.int p3), .val (.int p4), .val (.int p5), .val (.ref b610), .unset, .unset, .unset, .unset, .unset, .unset, .unset, .unset, .unset, .unset, .unset, .unset, .unset] [(.int (if (p5 &&& (2 : Int32)) = (0 : Int32) then (0 : Int32) else (1 : Int32))), (.int (1 : Int32)), (.ref b610)])) (fun t k => ?_) ?_
  · by_cases hc28_613 : (p5 &&& (2 : Int32)) = (0 : Int32)
    · show Steps p.tables e below (T612.setTop (mkF m 28 #[.val (.int p1), .val (.int p2), .val (.int p3), .val (.int p4), .val (.int p5), .val (.ref b610), .unset, .unset, .unset, .unset, .unset, .unset, .unset, .unset, .unset, .unset, .unset, .unset, .unset] [(.int (p5 &&& (2 : Int32))), (.int (1 : Int32)), (.ref b610)])) _
      refine XS.ifYes X612.here hx rfl (pc0 := 28) (pc' := 35) rfl (hb hby at_28) rfl ((if0 _ _).trans (teq hc28_613).1) (by decide) (by decide) ?_
      refine XS.iconst X612.here hx rfl (hb hby at_35) ?_
      show Steps p.tables e below (T612.setTop (mkF m 36 #[.val (.int p1), .val (.int p2), .val (.int p3), .val (.int p4), .val (.int p5), .val (.ref b610), .unset, .unset, .unset, .unset, .unset, .unset, .unset, .unset, .unset, .unset, .unset, .unset, .unset] [(.int (0 : Int32)), (.int (1 : Int32)), (.ref b610)])) _
      exact castTop (by first | (simp only [if_pos hc28_613]; done) | rfl) k
    · show Steps p.tables e below (T612.setTop (mkF m 28 #[.val (.int p1), .val (.int p2), .val (.int p3), .val (.int p4), .val (.int p5), .val (.ref b610), .unset, .unset, .unset, .unset, .unset, .unset, .unset, .unset, .unset, .unset, .unset, .unset, .unset] [(.int (p5 &&& (2 : Int32))), (.int (1 : Int32)), (.ref b610)])) _
      refine XS.ifNo X612.here hx rfl (hb hby at_28) rfl ((if0 _ _).trans (feq hc28_613).1) ?_
      refine XS.iconst X612.here hx rfl (hb hby at_31) ?_
      refine XS.goto X612.here hx rfl (pc0 := 32) (pc' := 36) rfl (hb hby at_32) (by decide) (by decide) ?_
      show Steps p.tables e below (T612.setTop (mkF m 36 #[.val (.int p1), .val (.int p2), .val (.int p3), .val (.int p4), .val (.int p5), .val (.ref b610), .unset, .unset, .unset, .unset, .unset, .unset, .unset, .unset, .unset, .unset, .unset, .unset, .unset] [(.int (1 : Int32)), (.int (1 : Int32)), (.ref b610)])) _
      exact castTop (by first | (simp only [if_neg hc28_613]; done) | rfl) k
  obtain ⟨v1, h_v1⟩ : ∃ z, z = (if (p5 &&& (2 : Int32)) = (0 : Int32) then (0 : Int32) else (1 : Int32)) := ⟨_, rfl⟩
  rw [← h_v1]
  obtain ⟨cl614, Ar614, q614, S614, M614, Ha614, G614⟩ := U612
  have hin614 : ¬ ((1 : Int32) < 0 ∨ cl614.slots.size ≤ ((1 : Int32)).toNatClampNeg) := inb_of S614 ⟨by decide, by decide⟩
  obtain ⟨T614, h614, X614, e614, W614, st614⟩ := stZ X612 hx hZ e612 Ar614 (j := (1 : Int32)) hin614 (g := (mkF m 36 #[.val (.int p1), .val (.int p2), .val (.int p3), .val (.int p4), .val (.int p5), .val (.ref b610), .unset, .unset, .unset, .unset, .unset, .unset, .unset, .unset, .unset, .unset, .unset, .unset, .unset] [(.int v1), (.int (1 : Int32)), (.ref b610)])) rfl rfl (hb hby at_36)
  have U614 : Arv Z h614 b610 k610 .boolean (3 : Int32) [(.int (nar .boolean v0)), (.int (nar .boolean v1)), (.int (0 : Int32))] (.int (0 : Int32)) := Arv.set Ar614 q614 S614 M614 Ha614 G614 (fits_nar_bool _) W614 1 rfl (Nat.le_of_ble_eq_true rfl)
  have Z614 : n0 ≤ h614.size := Nat.le_trans Z612 (Keep.of_wr W614).1
  have N614 := Fr.snoc X614 N612 low610
  refine own_go st614 ?_
  refine own_go (B := T614.setTop (mkF m 44 #[.val (.int p1), .val (.int p2), .val (.int p3), .val (.int p4), .val (.int p5), .val (.ref b610), .unset, .unset, .unset, .unset, .unset, .unset, .unset, .unset, .unset, .unset, .unset, .unset, .unset] [(.int (p5 &&& (4 : Int32))), (.int (2 : Int32)), (.ref b610)])) (fun t k => ?_) ?_
  · refine XS.aload X614.here hx rfl (hb hby at_37) rfl rfl ?_
    refine XS.iconst X614.here hx rfl (hb hby at_39) ?_
    refine XS.iload X614.here hx rfl (hb hby at_40) rfl ?_
    refine XS.iconst X614.here hx rfl (hb hby at_42) ?_
    refine XS.iand X614.here hx rfl (hb hby at_43) rfl ?_
    exact k
  refine own_go (B := T614.setTop (mkF m 52 #[.val (.int p1), .val (.int p2), .val (.int p3), .val (.int p4), .val (.int p5), .val (.ref b610), .unset, .unset, .unset, .unset, .unset, .unset, .unset, .unset, .unset, .unset, .unset, .unset, .unset] [(.int (if (p5 &&& (4 : Int32)) = (0 : Int32) then (0 : Int32) else (1 : Int32))), (.int (2 : Int32)), (.ref b610)])) (fun t k => ?_) ?_
  · by_cases hc44_615 : (p5 &&& (4 : Int32)) = (0 : Int32)
    · show Steps p.tables e below (T614.setTop (mkF m 44 #[.val (.int p1), .val (.int p2), .val (.int p3), .val (.int p4), .val (.int p5), .val (.ref b610), .unset, .unset, .unset, .unset, .unset, .unset, .unset, .unset, .unset, .unset, .unset, .unset, .unset] [(.int (p5 &&& (4 : Int32))), (.int (2 : Int32)), (.ref b610)])) _
      refine XS.ifYes X614.here hx rfl (pc0 := 44) (pc' := 51) rfl (hb hby at_44) rfl ((if0 _ _).trans (teq hc44_615).1) (by decide) (by decide) ?_
      refine XS.iconst X614.here hx rfl (hb hby at_51) ?_
      show Steps p.tables e below (T614.setTop (mkF m 52 #[.val (.int p1), .val (.int p2), .val (.int p3), .val (.int p4), .val (.int p5), .val (.ref b610), .unset, .unset, .unset, .unset, .unset, .unset, .unset, .unset, .unset, .unset, .unset, .unset, .unset] [(.int (0 : Int32)), (.int (2 : Int32)), (.ref b610)])) _
      exact castTop (by first | (simp only [if_pos hc44_615]; done) | rfl) k
    · show Steps p.tables e below (T614.setTop (mkF m 44 #[.val (.int p1), .val (.int p2), .val (.int p3), .val (.int p4), .val (.int p5), .val (.ref b610), .unset, .unset, .unset, .unset, .unset, .unset, .unset, .unset, .unset, .unset, .unset, .unset, .unset] [(.int (p5 &&& (4 : Int32))), (.int (2 : Int32)), (.ref b610)])) _
      refine XS.ifNo X614.here hx rfl (hb hby at_44) rfl ((if0 _ _).trans (feq hc44_615).1) ?_
      refine XS.iconst X614.here hx rfl (hb hby at_47) ?_
      refine XS.goto X614.here hx rfl (pc0 := 48) (pc' := 52) rfl (hb hby at_48) (by decide) (by decide) ?_
      show Steps p.tables e below (T614.setTop (mkF m 52 #[.val (.int p1), .val (.int p2), .val (.int p3), .val (.int p4), .val (.int p5), .val (.ref b610), .unset, .unset, .unset, .unset, .unset, .unset, .unset, .unset, .unset, .unset, .unset, .unset, .unset] [(.int (1 : Int32)), (.int (2 : Int32)), (.ref b610)])) _
      exact castTop (by first | (simp only [if_neg hc44_615]; done) | rfl) k
  obtain ⟨v2, h_v2⟩ : ∃ z, z = (if (p5 &&& (4 : Int32)) = (0 : Int32) then (0 : Int32) else (1 : Int32)) := ⟨_, rfl⟩
  rw [← h_v2]
  obtain ⟨cl616, Ar616, q616, S616, M616, Ha616, G616⟩ := U614
  have hin616 : ¬ ((2 : Int32) < 0 ∨ cl616.slots.size ≤ ((2 : Int32)).toNatClampNeg) := inb_of S616 ⟨by decide, by decide⟩
  obtain ⟨T616, h616, X616, e616, W616, st616⟩ := stZ X614 hx hZ e614 Ar616 (j := (2 : Int32)) hin616 (g := (mkF m 52 #[.val (.int p1), .val (.int p2), .val (.int p3), .val (.int p4), .val (.int p5), .val (.ref b610), .unset, .unset, .unset, .unset, .unset, .unset, .unset, .unset, .unset, .unset, .unset, .unset, .unset] [(.int v2), (.int (2 : Int32)), (.ref b610)])) rfl rfl (hb hby at_52)
  have U616 : Arv Z h616 b610 k610 .boolean (3 : Int32) [(.int (nar .boolean v0)), (.int (nar .boolean v1)), (.int (nar .boolean v2))] (.int (0 : Int32)) := Arv.set Ar616 q616 S616 M616 Ha616 G616 (fits_nar_bool _) W616 2 rfl (Nat.le_of_ble_eq_true rfl)
  have Z616 : n0 ≤ h616.size := Nat.le_trans Z614 (Keep.of_wr W616).1
  have N616 := Fr.snoc X616 N614 low610
  refine own_go st616 ?_
  refine own_go (B := T616.setTop (mkF m 54 #[.val (.int p1), .val (.int p2), .val (.int p3), .val (.int p4), .val (.int p5), .val (.ref b610), .unset, .unset, .unset, .unset, .unset, .unset, .unset, .unset, .unset, .unset, .unset, .unset, .unset] [(.int (5 : Int32))])) (fun t k => ?_) ?_
  · refine XS.iconst X616.here hx rfl (hb hby at_53) ?_
    exact k
  obtain ⟨T617, h617, k617, X617, e617, E617, A617, st617⟩ := newP X616 hx hZ (own_w hw 1 rfl) e616 (g := (mkF m 54 #[.val (.int p1), .val (.int p2), .val (.int p3), .val (.int p4), .val (.int p5), .val (.ref b610), .unset, .unset, .unset, .unset, .unset, .unset, .unset, .unset, .unset, .unset, .unset, .unset, .unset] [(.int (5 : Int32))])) rfl (hb hby at_54) rfl (by decide) (cap := 5) (by decide) (by decide) (by decide) (by decide)
  obtain ⟨b617, g617⟩ : ∃ z, z = h616.size := ⟨_, rfl⟩
  rw [← g617] at A617 st617
  have ne617_b610 : b610 ≠ b617 := Nat.ne_of_lt (Nat.lt_of_lt_of_le U616.lt (Nat.le_of_eq g617.symm))
  have low617 : n0 ≤ b617 := Nat.le_trans Z616 (Nat.le_of_eq g617.symm)
  have Q618 : Arv Z h617 b610 k610 .boolean (3 : Int32) [(.int (nar .boolean v0)), (.int (nar .boolean v1)), (.int (nar .boolean v2))] (.int (0 : Int32)) := U616.ext E617
  have Z617 : n0 ≤ h617.size := Nat.le_trans Z616 E617.1
  have V617 : Arv Z h617 b617 k617 .int (5 : Int32) [(.int (0 : Int32)), (.int (0 : Int32)), (.int (0 : Int32)), (.int (0 : Int32)), (.int (0 : Int32))] (.int (0 : Int32)) := (Arv.new A617 (by decide)).pad (pad_rep [] (.int (0 : Int32)) 5)
  refine own_go st617 ?_
  refine own_go (B := T617.setTop (mkF m 64 #[.val (.int p1), .val (.int p2), .val (.int p3), .val (.int p4), .val (.int p5), .val (.ref b610), .val (.ref b617), .unset, .unset, .unset, .unset, .unset, .unset, .unset, .unset, .unset, .unset, .unset, .unset] [(.int ((p1 &&& (2147483647 : Int32)) % (5 : Int32)))])) (fun t k => ?_) ?_
  · refine XS.astore X617.here hx rfl (hb hby at_56) rfl rfl (l' := #[.val (.int p1), .val (.int p2), .val (.int p3), .val (.int p4), .val (.int p5), .val (.ref b610), .val (.ref b617), .unset, .unset, .unset, .unset, .unset, .unset, .unset, .unset, .unset, .unset, .unset, .unset]) rfl ?_
    refine XS.iloadN X617.here hx rfl (hb hby at_58) rfl ?_
    refine X617.ldcInt hx hown (mvT hZ (own_w hw 2 rfl)) (g := (mkF m 59 #[.val (.int p1), .val (.int p2), .val (.int p3), .val (.int p4), .val (.int p5), .val (.ref b610), .val (.ref b617), .unset, .unset, .unset, .unset, .unset, .unset, .unset, .unset, .unset, .unset, .unset, .unset] [(.int p1)])) rfl (hb hby at_59) _ ?_
    refine XS.iand X617.here hx rfl (hb hby at_61) rfl ?_
    refine XS.iconst X617.here hx rfl (hb hby at_62) ?_
    refine iremM X617 hx rfl (hb hby at_63) rfl (by decide) ?_
    exact k
  obtain ⟨ia, h_ia⟩ : ∃ z, z = ((p1 &&& (2147483647 : Int32)) % (5 : Int32)) := ⟨_, rfl⟩
  rw [← h_ia]
  have qia : ia = (0 : Int32) ∨ ia = (1 : Int32) ∨ ia = (2 : Int32) ∨ ia = (3 : Int32) ∨ ia = (4 : Int32) := by rw [h_ia]; exact own_rem5 _
  refine own_go (B := T617.setTop (mkF m 72 #[.val (.int p1), .val (.int p2), .val (.int p3), .val (.int p4), .val (.int p5), .val (.ref b610), .val (.ref b617), .val (.int ia), .unset, .unset, .unset, .unset, .unset, .unset, .unset, .unset, .unset, .unset, .unset] [(.int ((p2 &&& (2147483647 : Int32)) % (5 : Int32)))])) (fun t k => ?_) ?_
  · refine XS.istore X617.here hx rfl (hb hby at_64) rfl (l' := #[.val (.int p1), .val (.int p2), .val (.int p3), .val (.int p4), .val (.int p5), .val (.ref b610), .val (.ref b617), .val (.int ia), .unset, .unset, .unset, .unset, .unset, .unset, .unset, .unset, .unset, .unset, .unset]) rfl ?_
    refine XS.iloadN X617.here hx rfl (hb hby at_66) rfl ?_
    refine X617.ldcInt hx hown (mvT hZ (own_w hw 2 rfl)) (g := (mkF m 67 #[.val (.int p1), .val (.int p2), .val (.int p3), .val (.int p4), .val (.int p5), .val (.ref b610), .val (.ref b617), .val (.int ia), .unset, .unset, .unset, .unset, .unset, .unset, .unset, .unset, .unset, .unset, .unset] [(.int p2)])) rfl (hb hby at_67) _ ?_
    refine XS.iand X617.here hx rfl (hb hby at_69) rfl ?_
    refine XS.iconst X617.here hx rfl (hb hby at_70) ?_
    refine iremM X617 hx rfl (hb hby at_71) rfl (by decide) ?_
    exact k
  obtain ⟨ib, h_ib⟩ : ∃ z, z = ((p2 &&& (2147483647 : Int32)) % (5 : Int32)) := ⟨_, rfl⟩
  rw [← h_ib]
  have qib : ib = (0 : Int32) ∨ ib = (1 : Int32) ∨ ib = (2 : Int32) ∨ ib = (3 : Int32) ∨ ib = (4 : Int32) := by rw [h_ib]; exact own_rem5 _
  refine own_go (B := T617.setTop (mkF m 80 #[.val (.int p1), .val (.int p2), .val (.int p3), .val (.int p4), .val (.int p5), .val (.ref b610), .val (.ref b617), .val (.int ia), .val (.int ib), .unset, .unset, .unset, .unset, .unset, .unset, .unset, .unset, .unset, .unset] [(.int ((p3 &&& (2147483647 : Int32)) % (5 : Int32)))])) (fun t k => ?_) ?_
  · refine XS.istore X617.here hx rfl (hb hby at_72) rfl (l' := #[.val (.int p1), .val (.int p2), .val (.int p3), .val (.int p4), .val (.int p5), .val (.ref b610), .val (.ref b617), .val (.int ia), .val (.int ib), .unset, .unset, .unset, .unset, .unset, .unset, .unset, .unset, .unset, .unset]) rfl ?_
    refine XS.iloadN X617.here hx rfl (hb hby at_74) rfl ?_
    refine X617.ldcInt hx hown (mvT hZ (own_w hw 2 rfl)) (g := (mkF m 75 #[.val (.int p1), .val (.int p2), .val (.int p3), .val (.int p4), .val (.int p5), .val (.ref b610), .val (.ref b617), .val (.int ia), .val (.int ib), .unset, .unset, .unset, .unset, .unset, .unset, .unset, .unset, .unset, .unset] [(.int p3)])) rfl (hb hby at_75) _ ?_
    refine XS.iand X617.here hx rfl (hb hby at_77) rfl ?_
    refine XS.iconst X617.here hx rfl (hb hby at_78) ?_
    refine iremM X617 hx rfl (hb hby at_79) rfl (by decide) ?_
    exact k
  obtain ⟨ic, h_ic⟩ : ∃ z, z = ((p3 &&& (2147483647 : Int32)) % (5 : Int32)) := ⟨_, rfl⟩
  rw [← h_ic]
  have qic : ic = (0 : Int32) ∨ ic = (1 : Int32) ∨ ic = (2 : Int32) ∨ ic = (3 : Int32) ∨ ic = (4 : Int32) := by rw [h_ic]; exact own_rem5 _
  refine own_go (B := T617.setTop (mkF m 94 #[.val (.int p1), .val (.int p2), .val (.int p3), .val (.int p4), .val (.int p5), .val (.ref b610), .val (.ref b617), .val (.int ia), .val (.int ib), .val (.int ic), .val (.int (p4 &&& (3 : Int32))), .val (.int (((p4.toUInt32 >>> ((2 : Int32) &&& 31).toUInt32).toInt32) &&& (3 : Int32))), .unset, .unset, .unset, .unset, .unset, .unset, .unset] [])) (fun t k => ?_) ?_
  · refine XS.istore X617.here hx rfl (hb hby at_80) rfl (l' := #[.val (.int p1), .val (.int p2), .val (.int p3), .val (.int p4), .val (.int p5), .val (.ref b610), .val (.ref b617), .val (.int ia), .val (.int ib), .val (.int ic), .unset, .unset, .unset, .unset, .unset, .unset, .unset, .unset, .unset]) rfl ?_
    refine XS.iloadN X617.here hx rfl (hb hby at_82) rfl ?_
    refine XS.iconst X617.here hx rfl (hb hby at_83) ?_
    refine XS.iand X617.here hx rfl (hb hby at_84) rfl ?_
    refine XS.istore X617.here hx rfl (hb hby at_85) rfl (l' := #[.val (.int p1), .val (.int p2), .val (.int p3), .val (.int p4), .val (.int p5), .val (.ref b610), .val (.ref b617), .val (.int ia), .val (.int ib), .val (.int ic), .val (.int (p4 &&& (3 : Int32))), .unset, .unset, .unset, .unset, .unset, .unset, .unset, .unset]) rfl ?_
    refine XS.iloadN X617.here hx rfl (hb hby at_87) rfl ?_
    refine XS.iconst X617.here hx rfl (hb hby at_88) ?_
    refine XS.iushr X617.here hx rfl (hb hby at_89) rfl ?_
    refine XS.iconst X617.here hx rfl (hb hby at_90) ?_
    refine XS.iand X617.here hx rfl (hb hby at_91) rfl ?_
    refine XS.istore X617.here hx rfl (hb hby at_92) rfl (l' := #[.val (.int p1), .val (.int p2), .val (.int p3), .val (.int p4), .val (.int p5), .val (.ref b610), .val (.ref b617), .val (.int ia), .val (.int ib), .val (.int ic), .val (.int (p4 &&& (3 : Int32))), .val (.int (((p4.toUInt32 >>> ((2 : Int32) &&& 31).toUInt32).toInt32) &&& (3 : Int32))), .unset, .unset, .unset, .unset, .unset, .unset, .unset]) rfl ?_
    exact k
  obtain ⟨T619, h619, X619, e619, E619, A619, D619, -, st619⟩ := newO X617 hx hZ hown (own_w hw 3 rfl) (own_w hw 4 rfl) (own_w hw 5 rfl) e617 (g := (mkF m 94 #[.val (.int p1), .val (.int p2), .val (.int p3), .val (.int p4), .val (.int p5), .val (.ref b610), .val (.ref b617), .val (.int ia), .val (.int ib), .val (.int ic), .val (.int (p4 &&& (3 : Int32))), .val (.int (((p4.toUInt32 >>> ((2 : Int32) &&& 31).toUInt32).toInt32) &&& (3 : Int32))), .unset, .unset, .unset, .unset, .unset, .unset, .unset] [])) rfl (hb hby at_94) (by decide) (by decide)
  obtain ⟨b619, g619⟩ : ∃ z, z = h617.size := ⟨_, rfl⟩
  rw [← g619] at A619 D619 st619
  have ne619_b610 : b610 ≠ b619 := Nat.ne_of_lt (Nat.lt_of_lt_of_le Q618.lt (Nat.le_of_eq g619.symm))
  have ne619_b617 : b617 ≠ b619 := Nat.ne_of_lt (Nat.lt_of_lt_of_le V617.lt (Nat.le_of_eq g619.symm))
  have low619 : n0 ≤ b619 := Nat.le_trans Z617 (Nat.le_of_eq g619.symm)
  have Q620 : Arv Z h619 b610 k610 .boolean (3 : Int32) [(.int (nar .boolean v0)), (.int (nar .boolean v1)), (.int (nar .boolean v2))] (.int (0 : Int32)) := Q618.ext E619
  have Q621 : Arv Z h619 b617 k617 .int (5 : Int32) [(.int (0 : Int32)), (.int (0 : Int32)), (.int (0 : Int32)), (.int (0 : Int32)), (.int (0 : Int32))] (.int (0 : Int32)) := V617.ext E619
  have Z619 : n0 ≤ h619.size := Nat.le_trans Z617 E619.1
  have D619_variableCount_Bdd : Fld Z h619 b619 OB "variableCount" "I" (.int (0 : Int32)) := D619 (Or.inr (own_w hw 14 rfl)) (ty := .int) (by decide)
  have D619_maxNodes_Bdd : Fld Z h619 b619 OB "maxNodes" "I" (.int (0 : Int32)) := D619 (Or.inr (own_w hw 21 rfl)) (ty := .int) (by decide)
  have D619_maxComputations_Bdd : Fld Z h619 b619 OB "maxComputations" "J" (.long (0 : Int64)) := D619 (Or.inr (own_w hw 23 rfl)) (ty := .long) (by decide)
  have D619_nodes_Bdd : Fld Z h619 b619 OB "nodes" "[I" .null := D619 (Or.inl (own_w hw 25 rfl)) (ty := (.array .int)) (by decide)
  have D619_buckets_Bdd : Fld Z h619 b619 OB "buckets" "[I" .null := D619 (Or.inl (own_w hw 36 rfl)) (ty := (.array .int)) (by decide)
  have D619_cacheBits_Bdd : Fld Z h619 b619 OB "cacheBits" "I" (.int (0 : Int32)) := D619 (Or.inl (own_w hw 42 rfl)) (ty := .int) (by decide)
  have D619_cache_Bdd : Fld Z h619 b619 OB "cache" "[I" .null := D619 (Or.inl (own_w hw 44 rfl)) (ty := (.array .int)) (by decide)
  have D619_size_Bdd : Fld Z h619 b619 OB "size" "I" (.int (0 : Int32)) := D619 (Or.inl (own_w hw 46 rfl)) (ty := .int) (by decide)
  have D619_computations_Bdd : Fld Z h619 b619 OB "computations" "J" (.long (0 : Int64)) := D619 (Or.inl (own_w hw 123 rfl)) (ty := .long) (by decide)
  refine own_go st619 ?_
  refine own_go (B := T619.setTop (mkF m 104 #[.val (.int p1), .val (.int p2), .val (.int p3), .val (.int p4), .val (.int p5), .val (.ref b610), .val (.ref b617), .val (.int ia), .val (.int ib), .val (.int ic), .val (.int (p4 &&& (3 : Int32))), .val (.int (((p4.toUInt32 >>> ((2 : Int32) &&& 31).toUInt32).toInt32) &&& (3 : Int32))), .unset, .unset, .unset, .unset, .unset, .unset, .unset] [(.long (9223372036854775807 : Int64)), (.int (64 : Int32)), (.int (3 : Int32)), (.ref b619), (.ref b619)])) (fun t k => ?_) ?_
  · refine XS.dup X619.here hx rfl (hb hby at_97) rfl rfl ?_
    refine XS.iconst X619.here hx rfl (hb hby at_98) ?_
    refine XS.bipush X619.here hx rfl (hb hby at_99) ?_
    refine X619.ldc2Long hx hown (mvT hZ (own_w hw 6 rfl)) (g := (mkF m 101 #[.val (.int p1), .val (.int p2), .val (.int p3), .val (.int p4), .val (.int p5), .val (.ref b610), .val (.ref b617), .val (.int ia), .val (.int ib), .val (.int ic), .val (.int (p4 &&& (3 : Int32))), .val (.int (((p4.toUInt32 >>> ((2 : Int32) &&& 31).toUInt32).toInt32) &&& (3 : Int32))), .unset, .unset, .unset, .unset, .unset, .unset, .unset] [(.int (64 : Int32)), (.int (3 : Int32)), (.ref b619), (.ref b619)])) rfl (hb hby at_101) _ ?_
    exact k
  obtain ⟨_, _, ⟨T622, L622, k622, n622⟩, -, X622, ⟨Lc622, hQ622, l622, y622, z622⟩, st622⟩ := X619.specialBack hx (y := (⟨OB, "<init>", "(IIJ)V"⟩ : MethodName)) rfl hown (mvT hZ (own_w hw 7 rfl)) (mvT hZ (own_w hw 8 rfl)) (mvT hZ (own_w hw 9 rfl)) (by decide) (backOf (W := 1) (rm1 l Z a0 hw [] b619 h619 n0 Z619 A619 D619_variableCount_Bdd D619_maxNodes_Bdd D619_cacheBits_Bdd D619_size_Bdd D619_maxComputations_Bdd D619_computations_Bdd D619_nodes_Bdd D619_buckets_Bdd D619_cache_Bdd low619) hZ (own_w hw 9 rfl) (own_w hw 5 rfl) (by decide) (by decide)) (g := (mkF m 104 #[.val (.int p1), .val (.int p2), .val (.int p3), .val (.int p4), .val (.int p5), .val (.ref b610), .val (.ref b617), .val (.int ia), .val (.int ib), .val (.int ic), .val (.int (p4 &&& (3 : Int32))), .val (.int (((p4.toUInt32 >>> ((2 : Int32) &&& 31).toUInt32).toInt32) &&& (3 : Int32))), .unset, .unset, .unset, .unset, .unset, .unset, .unset] [(.long (9223372036854775807 : Int64)), (.int (64 : Int32)), (.int (3 : Int32)), (.ref b619), (.ref b619)])) rfl (by rw [hml]; rfl) (Steps.refl _) (a := b619) (argsL := [(.int (3 : Int32)), (.int (64 : Int32)), (.long (9223372036854775807 : Int64))]) (rest := [(.ref b619)]) (lenOf pd_9 rfl) rfl (by show 2 * 0 + _ ≤ _; exact Nat.le_of_eq rfl) (hb hby at_104) (fun _ _ => ⟨rfl, e619, (by decide : 3 + 3 ≤ _), (by decide : 18 + 4416 ≤ _)⟩)
  dsimp only [Pt.U, Pt.locs, Pt.cells, Pt.slots] at X622 l622 y622 z622 st622 hQ622
  subst l622 y622 z622
  obtain ⟨b1_622, b2_622, b3_622, k1_622, k2_622, k3_622, ns'_622, bs'_622, cs'_622, rfl, Nq622, Kq622, sq_b1_622, sq_b2_622, sq_b3_622, pq622_0, pq622_1, pq622_2, pq622_3, pq622_4, pq622_5, U622_0, U622_1, U622_2, U622_3, U622_4, U622_5, U622_6, U622_7, U622_8, U622_9, U622_10, U622_11, Pq622_0⟩ := hQ622
  have ne_b610_b1_622 : b610 ≠ b1_622 := Nat.ne_of_lt (Nat.lt_of_lt_of_le Q620.lt sq_b1_622)
  have ne_b617_b1_622 : b617 ≠ b1_622 := Nat.ne_of_lt (Nat.lt_of_lt_of_le Q621.lt sq_b1_622)
  have ne_b619_b1_622 : b619 ≠ b1_622 := Nat.ne_of_lt (Nat.lt_of_lt_of_le A619.lt sq_b1_622)
  have low_b1_622 : n0 ≤ b1_622 := Nat.le_trans Z619 sq_b1_622
  have ne_b610_b2_622 : b610 ≠ b2_622 := Nat.ne_of_lt (Nat.lt_of_lt_of_le Q620.lt sq_b2_622)
  have ne_b617_b2_622 : b617 ≠ b2_622 := Nat.ne_of_lt (Nat.lt_of_lt_of_le Q621.lt sq_b2_622)
  have ne_b619_b2_622 : b619 ≠ b2_622 := Nat.ne_of_lt (Nat.lt_of_lt_of_le A619.lt sq_b2_622)
  have low_b2_622 : n0 ≤ b2_622 := Nat.le_trans Z619 sq_b2_622
  have ne_b610_b3_622 : b610 ≠ b3_622 := Nat.ne_of_lt (Nat.lt_of_lt_of_le Q620.lt sq_b3_622)
  have ne_b617_b3_622 : b617 ≠ b3_622 := Nat.ne_of_lt (Nat.lt_of_lt_of_le Q621.lt sq_b3_622)
  have ne_b619_b3_622 : b619 ≠ b3_622 := Nat.ne_of_lt (Nat.lt_of_lt_of_le A619.lt sq_b3_622)
  have low_b3_622 : n0 ≤ b3_622 := Nat.le_trans Z619 sq_b3_622
  have Q623 : Arv Z T622.heap b610 k610 .boolean (3 : Int32) [(.int (nar .boolean v0)), (.int (nar .boolean v1)), (.int (nar .boolean v2))] (.int (0 : Int32)) := Q620.keep Kq622 (ninS ne619_b610 nin0)
  have Q624 : Arv Z T622.heap b617 k617 .int (5 : Int32) [(.int (0 : Int32)), (.int (0 : Int32)), (.int (0 : Int32)), (.int (0 : Int32)), (.int (0 : Int32))] (.int (0 : Int32)) := Q621.keep Kq622 (ninS ne619_b617 nin0)
  have Q625 : Exa Z T622.heap b619 OB := A619.keep Kq622
  have Z622 : n0 ≤ T622.heap.size := Nat.le_trans Z619 Kq622.1
  have N622 := Fr.app N616 Nq622
  refine own_go (B := T622.setTop (mkF m 107 #[.val (.int p1), .val (.int p2), .val (.int p3), .val (.int p4), .val (.int p5), .val (.ref b610), .val (.ref b617), .val (.int ia), .val (.int ib), .val (.int ic), .val (.int (p4 &&& (3 : Int32))), .val (.int (((p4.toUInt32 >>> ((2 : Int32) &&& 31).toUInt32).toInt32) &&& (3 : Int32))), .unset, .unset, .unset, .unset, .unset, .unset, .unset] [(.ref b619)])) (fun t k => st622.trans k) ?_
  refine own_go (B := T622.setTop (mkF m 113 #[.val (.int p1), .val (.int p2), .val (.int p3), .val (.int p4), .val (.int p5), .val (.ref b610), .val (.ref b617), .val (.int ia), .val (.int ib), .val (.int ic), .val (.int (p4 &&& (3 : Int32))), .val (.int (((p4.toUInt32 >>> ((2 : Int32) &&& 31).toUInt32).toInt32) &&& (3 : Int32))), .val (.ref b619), .unset, .unset, .unset, .unset, .unset, .unset] [(.int (0 : Int32)), (.int (0 : Int32)), (.ref b617)])) (fun t k => ?_) ?_
  · refine XS.astore X622.here hx rfl (hb hby at_107) rfl rfl (l' := #[.val (.int p1), .val (.int p2), .val (.int p3), .val (.int p4), .val (.int p5), .val (.ref b610), .val (.ref b617), .val (.int ia), .val (.int ib), .val (.int ic), .val (.int (p4 &&& (3 : Int32))), .val (.int (((p4.toUInt32 >>> ((2 : Int32) &&& 31).toUInt32).toInt32) &&& (3 : Int32))), .val (.ref b619), .unset, .unset, .unset, .unset, .unset, .unset]) rfl ?_
    refine XS.aload X622.here hx rfl (hb hby at_109) rfl rfl ?_
    refine XS.iconst X622.here hx rfl (hb hby at_111) ?_
    refine XS.iconst X622.here hx rfl (hb hby at_112) ?_
    exact k
  obtain ⟨cl626, Ar626, q626, S626, M626, Ha626, G626⟩ := Q624
  have hin626 : ¬ ((0 : Int32) < 0 ∨ cl626.slots.size ≤ ((0 : Int32)).toNatClampNeg) := inb_of S626 ⟨by decide, by decide⟩
  obtain ⟨T626, h626, X626, e626, W626, st626⟩ := stI X622 hx hZ rfl Ar626 (j := (0 : Int32)) hin626 (g := (mkF m 113 #[.val (.int p1), .val (.int p2), .val (.int p3), .val (.int p4), .val (.int p5), .val (.ref b610), .val (.ref b617), .val (.int ia), .val (.int ib), .val (.int ic), .val (.int (p4 &&& (3 : Int32))), .val (.int (((p4.toUInt32 >>> ((2 : Int32) &&& 31).toUInt32).toInt32) &&& (3 : Int32))), .val (.ref b619), .unset, .unset, .unset, .unset, .unset, .unset] [(.int (0 : Int32)), (.int (0 : Int32)), (.ref b617)])) rfl rfl (hb hby at_113)
  have Q627 : Arv Z h626 b610 k610 .boolean (3 : Int32) [(.int (nar .boolean v0)), (.int (nar .boolean v1)), (.int (nar .boolean v2))] (.int (0 : Int32)) := Q623.other W626 ne617_b610
  have Q628 : Exa Z h626 b619 OB := U622_0.wr W626
  have Q629 : Fld Z h626 b619 OB "variableCount" "I" (.int (3 : Int32)) := U622_1.other W626 (Or.inl (Ne.symm ne619_b617))
  have Q630 : Fld Z h626 b619 OB "maxComputations" "J" (.long (9223372036854775807 : Int64)) := U622_2.other W626 (Or.inl (Ne.symm ne619_b617))
  have Q631 : Fld Z h626 b619 OB "nodes" "[I" (.ref b1_622) := U622_3.other W626 (Or.inl (Ne.symm ne619_b617))
  have Q632 : Fld Z h626 b619 OB "buckets" "[I" (.ref b2_622) := U622_4.other W626 (Or.inl (Ne.symm ne619_b617))
  have Q633 : Fld Z h626 b619 OB "cacheBits" "I" (.int (10 : Int32)) := U622_5.other W626 (Or.inl (Ne.symm ne619_b617))
  have Q634 : Fld Z h626 b619 OB "cache" "[I" (.ref b3_622) := U622_6.other W626 (Or.inl (Ne.symm ne619_b617))
  have Q635 : Fld Z h626 b619 OB "size" "I" (.int (2 : Int32)) := U622_7.other W626 (Or.inl (Ne.symm ne619_b617))
  have Q636 : Fld Z h626 b619 OB "computations" "J" (.long (0 : Int64)) := U622_8.other W626 (Or.inl (Ne.symm ne619_b617))
  have Q637 : Arv Z h626 b1_622 k1_622 .int (256 : Int32) (own_I ns'_622) (.int (0 : Int32)) := U622_9.other W626 (Ne.symm ne_b617_b1_622)
  have Q638 : Arv Z h626 b2_622 k2_622 .int (64 : Int32) (own_I bs'_622) (.int (0 : Int32)) := U622_10.other W626 (Ne.symm ne_b617_b2_622)
  have Q639 : Arv Z h626 b3_622 k3_622 .int (4096 : Int32) (own_I cs'_622) (.int (0 : Int32)) := U622_11.other W626 (Ne.symm ne_b617_b3_622)
  have U626 : Arv Z h626 b617 k617 .int (5 : Int32) [(.int (0 : Int32)), (.int (0 : Int32)), (.int (0 : Int32)), (.int (0 : Int32)), (.int (0 : Int32))] (.int (0 : Int32)) := Arv.set Ar626 q626 S626 M626 Ha626 G626 rfl W626 0 rfl (Nat.le_of_ble_eq_true rfl)
  have Z626 : n0 ≤ h626.size := Nat.le_trans Z622 (Keep.of_wr W626).1
  have N626 := Fr.snoc X626 N622 low617
  refine own_go st626 ?_
  refine own_go (B := T626.setTop (mkF m 118 #[.val (.int p1), .val (.int p2), .val (.int p3), .val (.int p4), .val (.int p5), .val (.ref b610), .val (.ref b617), .val (.int ia), .val (.int ib), .val (.int ic), .val (.int (p4 &&& (3 : Int32))), .val (.int (((p4.toUInt32 >>> ((2 : Int32) &&& 31).toUInt32).toInt32) &&& (3 : Int32))), .val (.ref b619), .unset, .unset, .unset, .unset, .unset, .unset] [(.int (1 : Int32)), (.int (1 : Int32)), (.ref b617)])) (fun t k => ?_) ?_
  · refine XS.aload X626.here hx rfl (hb hby at_114) rfl rfl ?_
    refine XS.iconst X626.here hx rfl (hb hby at_116) ?_
    refine XS.iconst X626.here hx rfl (hb hby at_117) ?_
    exact k
  obtain ⟨cl640, Ar640, q640, S640, M640, Ha640, G640⟩ := U626
  have hin640 : ¬ ((1 : Int32) < 0 ∨ cl640.slots.size ≤ ((1 : Int32)).toNatClampNeg) := inb_of S640 ⟨by decide, by decide⟩
  obtain ⟨T640, h640, X640, e640, W640, st640⟩ := stI X626 hx hZ e626 Ar640 (j := (1 : Int32)) hin640 (g := (mkF m 118 #[.val (.int p1), .val (.int p2), .val (.int p3), .val (.int p4), .val (.int p5), .val (.ref b610), .val (.ref b617), .val (.int ia), .val (.int ib), .val (.int ic), .val (.int (p4 &&& (3 : Int32))), .val (.int (((p4.toUInt32 >>> ((2 : Int32) &&& 31).toUInt32).toInt32) &&& (3 : Int32))), .val (.ref b619), .unset, .unset, .unset, .unset, .unset, .unset] [(.int (1 : Int32)), (.int (1 : Int32)), (.ref b617)])) rfl rfl (hb hby at_118)
  have Q641 : Arv Z h640 b610 k610 .boolean (3 : Int32) [(.int (nar .boolean v0)), (.int (nar .boolean v1)), (.int (nar .boolean v2))] (.int (0 : Int32)) := Q627.other W640 ne617_b610
  have Q642 : Exa Z h640 b619 OB := Q628.wr W640
  have Q643 : Fld Z h640 b619 OB "variableCount" "I" (.int (3 : Int32)) := Q629.other W640 (Or.inl (Ne.symm ne619_b617))
  have Q644 : Fld Z h640 b619 OB "maxComputations" "J" (.long (9223372036854775807 : Int64)) := Q630.other W640 (Or.inl (Ne.symm ne619_b617))
  have Q645 : Fld Z h640 b619 OB "nodes" "[I" (.ref b1_622) := Q631.other W640 (Or.inl (Ne.symm ne619_b617))
  have Q646 : Fld Z h640 b619 OB "buckets" "[I" (.ref b2_622) := Q632.other W640 (Or.inl (Ne.symm ne619_b617))
  have Q647 : Fld Z h640 b619 OB "cacheBits" "I" (.int (10 : Int32)) := Q633.other W640 (Or.inl (Ne.symm ne619_b617))
  have Q648 : Fld Z h640 b619 OB "cache" "[I" (.ref b3_622) := Q634.other W640 (Or.inl (Ne.symm ne619_b617))
  have Q649 : Fld Z h640 b619 OB "size" "I" (.int (2 : Int32)) := Q635.other W640 (Or.inl (Ne.symm ne619_b617))
  have Q650 : Fld Z h640 b619 OB "computations" "J" (.long (0 : Int64)) := Q636.other W640 (Or.inl (Ne.symm ne619_b617))
  have Q651 : Arv Z h640 b1_622 k1_622 .int (256 : Int32) (own_I ns'_622) (.int (0 : Int32)) := Q637.other W640 (Ne.symm ne_b617_b1_622)
  have Q652 : Arv Z h640 b2_622 k2_622 .int (64 : Int32) (own_I bs'_622) (.int (0 : Int32)) := Q638.other W640 (Ne.symm ne_b617_b2_622)
  have Q653 : Arv Z h640 b3_622 k3_622 .int (4096 : Int32) (own_I cs'_622) (.int (0 : Int32)) := Q639.other W640 (Ne.symm ne_b617_b3_622)
  have U640 : Arv Z h640 b617 k617 .int (5 : Int32) [(.int (0 : Int32)), (.int (1 : Int32)), (.int (0 : Int32)), (.int (0 : Int32)), (.int (0 : Int32))] (.int (0 : Int32)) := Arv.set Ar640 q640 S640 M640 Ha640 G640 rfl W640 1 rfl (Nat.le_of_ble_eq_true rfl)
  have Z640 : n0 ≤ h640.size := Nat.le_trans Z626 (Keep.of_wr W640).1
  have N640 := Fr.snoc X640 N626 low617
  refine own_go st640 ?_
  refine own_go (B := T640.setTop (mkF m 125 #[.val (.int p1), .val (.int p2), .val (.int p3), .val (.int p4), .val (.int p5), .val (.ref b610), .val (.ref b617), .val (.int ia), .val (.int ib), .val (.int ic), .val (.int (p4 &&& (3 : Int32))), .val (.int (((p4.toUInt32 >>> ((2 : Int32) &&& 31).toUInt32).toInt32) &&& (3 : Int32))), .val (.ref b619), .unset, .unset, .unset, .unset, .unset, .unset] [(.int (0 : Int32)), (.ref b619), (.int (2 : Int32)), (.ref b617)])) (fun t k => ?_) ?_
  · refine XS.aload X640.here hx rfl (hb hby at_119) rfl rfl ?_
    refine XS.iconst X640.here hx rfl (hb hby at_121) ?_
    refine XS.aload X640.here hx rfl (hb hby at_122) rfl rfl ?_
    refine XS.iconst X640.here hx rfl (hb hby at_124) ?_
    exact k
  obtain ⟨cq654, kq654, q654a, q654b, q654c⟩ := isOf hZ e640 Q642
  obtain ⟨_, _, ⟨T654, L654, k654, n654⟩, -, X654, ⟨Lc654, hQ654, l654, y654, z654⟩, st654⟩ := X640.virtualBack hx (y := (⟨OB, "variable", "(I)I"⟩ : MethodName)) (z := (⟨OB, "variable", "(I)I"⟩ : MethodName)) hown (mvT hZ (own_w hw 47 rfl)) (mvT hZ (own_w hw 48 rfl)) (notFace_of_selects (args := #[]) (mvT hZ (own_w hw 50 rfl))) (mvT hZ (own_w hw 50 rfl)) (mvT hZ (own_w hw 49 rfl)) (by decide) (backOf (W := 2) (rm7_0 l Z a0 hw [] b619 b1_622 b2_622 b3_622 k1_622 k2_622 k3_622 ns'_622 bs'_622 cs'_622 (2 : Int32) (0 : Int64) 2 h640 n0 Z640 Q642 Q643 Q644 Q645 Q646 Q647 Q648 Q649 Q650 Q651 Q652 Q653 low619 low_b1_622 low_b2_622 ne_b619_b1_622 ne_b619_b2_622 ne_b619_b3_622 pq622_3 pq622_4 pq622_5 Pq622_0 rfl (by decide)) hZ (own_w hw 51 rfl) (own_w hw 5 rfl) (by decide) (by decide)) q654a q654c (g := (mkF m 125 #[.val (.int p1), .val (.int p2), .val (.int p3), .val (.int p4), .val (.int p5), .val (.ref b610), .val (.ref b617), .val (.int ia), .val (.int ib), .val (.int ic), .val (.int (p4 &&& (3 : Int32))), .val (.int (((p4.toUInt32 >>> ((2 : Int32) &&& 31).toUInt32).toInt32) &&& (3 : Int32))), .val (.ref b619), .unset, .unset, .unset, .unset, .unset, .unset] [(.int (0 : Int32)), (.ref b619), (.int (2 : Int32)), (.ref b617)])) rfl (by rw [hml]; rfl) (Steps.refl _) (argsL := [(.int (0 : Int32))]) (rest := [(.int (2 : Int32)), (.ref b617)]) (lenOf pd_2 rfl) rfl (by show 2 * 0 + _ ≤ _; exact Nat.le_of_eq rfl) (hb hby at_125) (fun _ _ => ⟨rfl, e640, (by decide : 6 + 0 ≤ _), (by decide : 4434 + 0 ≤ _)⟩)
  dsimp only [Pt.U, Pt.locs, Pt.cells, Pt.slots] at X654 l654 y654 z654 st654 hQ654
  subst l654 y654 z654
  obtain ⟨ns'_654, bs'_654, sz'_654, n'_654, r'_654, rfl, Nq654, Kq654, U654_0, U654_1, U654_2, U654_3, U654_4, U654_5, U654_6, U654_7, U654_8, U654_9, U654_10, U654_11, Pq654_0⟩ := hQ654
  have Q655 : Arv Z T654.heap b610 k610 .boolean (3 : Int32) [(.int (nar .boolean v0)), (.int (nar .boolean v1)), (.int (nar .boolean v2))] (.int (0 : Int32)) := Q641.keep Kq654 (ninS ne619_b610 (ninS ne_b610_b1_622 (ninS ne_b610_b2_622 nin0)))
  have Q656 : Exa Z T654.heap b619 OB := Q642.keep Kq654
  have Q657 : Arv Z T654.heap b3_622 k3_622 .int (4096 : Int32) (own_I cs'_622) (.int (0 : Int32)) := Q653.keep Kq654 (ninS (Ne.symm ne_b619_b3_622) (ninS (Ne.symm pq622_4) (ninS (Ne.symm pq622_5) nin0)))
  have Q658 : Arv Z T654.heap b617 k617 .int (5 : Int32) [(.int (0 : Int32)), (.int (1 : Int32)), (.int (0 : Int32)), (.int (0 : Int32)), (.int (0 : Int32))] (.int (0 : Int32)) := U640.keep Kq654 (ninS ne619_b617 (ninS ne_b617_b1_622 (ninS ne_b617_b2_622 nin0)))
  have Z654 : n0 ≤ T654.heap.size := Nat.le_trans Z640 Kq654.1
  have N654 := Fr.app N640 Nq654
  refine own_go (B := T654.setTop (mkF m 128 #[.val (.int p1), .val (.int p2), .val (.int p3), .val (.int p4), .val (.int p5), .val (.ref b610), .val (.ref b617), .val (.int ia), .val (.int ib), .val (.int ic), .val (.int (p4 &&& (3 : Int32))), .val (.int (((p4.toUInt32 >>> ((2 : Int32) &&& 31).toUInt32).toInt32) &&& (3 : Int32))), .val (.ref b619), .unset, .unset, .unset, .unset, .unset, .unset] [(.int r'_654), (.int (2 : Int32)), (.ref b617)])) (fun t k => st654.trans k) ?_
  obtain ⟨cl659, Ar659, q659, S659, M659, Ha659, G659⟩ := Q658
  have hin659 : ¬ ((2 : Int32) < 0 ∨ cl659.slots.size ≤ ((2 : Int32)).toNatClampNeg) := inb_of S659 ⟨by decide, by decide⟩
  obtain ⟨T659, h659, X659, e659, W659, st659⟩ := stI X654 hx hZ rfl Ar659 (j := (2 : Int32)) hin659 (g := (mkF m 128 #[.val (.int p1), .val (.int p2), .val (.int p3), .val (.int p4), .val (.int p5), .val (.ref b610), .val (.ref b617), .val (.int ia), .val (.int ib), .val (.int ic), .val (.int (p4 &&& (3 : Int32))), .val (.int (((p4.toUInt32 >>> ((2 : Int32) &&& 31).toUInt32).toInt32) &&& (3 : Int32))), .val (.ref b619), .unset, .unset, .unset, .unset, .unset, .unset] [(.int r'_654), (.int (2 : Int32)), (.ref b617)])) rfl rfl (hb hby at_128)
  have Q660 : Arv Z h659 b610 k610 .boolean (3 : Int32) [(.int (nar .boolean v0)), (.int (nar .boolean v1)), (.int (nar .boolean v2))] (.int (0 : Int32)) := Q655.other W659 ne617_b610
  have Q661 : Exa Z h659 b619 OB := U654_0.wr W659
  have Q662 : Arv Z h659 b3_622 k3_622 .int (4096 : Int32) (own_I cs'_622) (.int (0 : Int32)) := U654_11.other W659 (Ne.symm ne_b617_b3_622)
  have Q663 : Fld Z h659 b619 OB "variableCount" "I" (.int (3 : Int32)) := U654_1.other W659 (Or.inl (Ne.symm ne619_b617))
  have Q664 : Fld Z h659 b619 OB "maxComputations" "J" (.long (9223372036854775807 : Int64)) := U654_2.other W659 (Or.inl (Ne.symm ne619_b617))
  have Q665 : Fld Z h659 b619 OB "nodes" "[I" (.ref b1_622) := U654_3.other W659 (Or.inl (Ne.symm ne619_b617))
  have Q666 : Fld Z h659 b619 OB "buckets" "[I" (.ref b2_622) := U654_4.other W659 (Or.inl (Ne.symm ne619_b617))
  have Q667 : Fld Z h659 b619 OB "cacheBits" "I" (.int (10 : Int32)) := U654_5.other W659 (Or.inl (Ne.symm ne619_b617))
  have Q668 : Fld Z h659 b619 OB "cache" "[I" (.ref b3_622) := U654_6.other W659 (Or.inl (Ne.symm ne619_b617))
  have Q669 : Fld Z h659 b619 OB "size" "I" (.int sz'_654) := U654_7.other W659 (Or.inl (Ne.symm ne619_b617))
  have Q670 : Fld Z h659 b619 OB "computations" "J" (.long (0 : Int64)) := U654_8.other W659 (Or.inl (Ne.symm ne619_b617))
  have Q671 : Arv Z h659 b1_622 k1_622 .int (256 : Int32) (own_I ns'_654) (.int (0 : Int32)) := U654_9.other W659 (Ne.symm ne_b617_b1_622)
  have Q672 : Arv Z h659 b2_622 k2_622 .int (64 : Int32) (own_I bs'_654) (.int (0 : Int32)) := U654_10.other W659 (Ne.symm ne_b617_b2_622)
  have U659 : Arv Z h659 b617 k617 .int (5 : Int32) [(.int (0 : Int32)), (.int (1 : Int32)), (.int r'_654), (.int (0 : Int32)), (.int (0 : Int32))] (.int (0 : Int32)) := Arv.set Ar659 q659 S659 M659 Ha659 G659 rfl W659 2 rfl (Nat.le_of_ble_eq_true rfl)
  have Z659 : n0 ≤ h659.size := Nat.le_trans Z654 (Keep.of_wr W659).1
  have N659 := Fr.snoc X659 N654 low617
  refine own_go st659 ?_
  refine own_go (B := T659.setTop (mkF m 135 #[.val (.int p1), .val (.int p2), .val (.int p3), .val (.int p4), .val (.int p5), .val (.ref b610), .val (.ref b617), .val (.int ia), .val (.int ib), .val (.int ic), .val (.int (p4 &&& (3 : Int32))), .val (.int (((p4.toUInt32 >>> ((2 : Int32) &&& 31).toUInt32).toInt32) &&& (3 : Int32))), .val (.ref b619), .unset, .unset, .unset, .unset, .unset, .unset] [(.int (1 : Int32)), (.ref b619), (.int (3 : Int32)), (.ref b617)])) (fun t k => ?_) ?_
  · refine XS.aload X659.here hx rfl (hb hby at_129) rfl rfl ?_
    refine XS.iconst X659.here hx rfl (hb hby at_131) ?_
    refine XS.aload X659.here hx rfl (hb hby at_132) rfl rfl ?_
    refine XS.iconst X659.here hx rfl (hb hby at_134) ?_
    exact k
  obtain ⟨cq673, kq673, q673a, q673b, q673c⟩ := isOf hZ e659 Q661
  obtain ⟨_, _, ⟨T673, L673, k673, n673⟩, -, X673, ⟨Lc673, hQ673, l673, y673, z673⟩, st673⟩ := X659.virtualBack hx (y := (⟨OB, "variable", "(I)I"⟩ : MethodName)) (z := (⟨OB, "variable", "(I)I"⟩ : MethodName)) hown (mvT hZ (own_w hw 47 rfl)) (mvT hZ (own_w hw 48 rfl)) (notFace_of_selects (args := #[]) (mvT hZ (own_w hw 50 rfl))) (mvT hZ (own_w hw 50 rfl)) (mvT hZ (own_w hw 49 rfl)) (by decide) (backOf (W := 2) (rm7_1 l Z a0 hw [] b619 b1_622 b2_622 b3_622 k1_622 k2_622 k3_622 ns'_654 bs'_654 cs'_622 sz'_654 (0 : Int64) n'_654 h659 n0 Z659 Q661 Q663 Q664 Q665 Q666 Q667 Q668 Q669 Q670 Q671 Q672 Q662 low619 low_b1_622 low_b2_622 ne_b619_b1_622 ne_b619_b2_622 ne_b619_b3_622 pq622_3 pq622_4 pq622_5 Pq654_0.1 Pq654_0.2.1 (by have := Pq654_0.2.2.2.2.1; omega)) hZ (own_w hw 51 rfl) (own_w hw 5 rfl) (by decide) (by decide)) q673a q673c (g := (mkF m 135 #[.val (.int p1), .val (.int p2), .val (.int p3), .val (.int p4), .val (.int p5), .val (.ref b610), .val (.ref b617), .val (.int ia), .val (.int ib), .val (.int ic), .val (.int (p4 &&& (3 : Int32))), .val (.int (((p4.toUInt32 >>> ((2 : Int32) &&& 31).toUInt32).toInt32) &&& (3 : Int32))), .val (.ref b619), .unset, .unset, .unset, .unset, .unset, .unset] [(.int (1 : Int32)), (.ref b619), (.int (3 : Int32)), (.ref b617)])) rfl (by rw [hml]; rfl) (Steps.refl _) (argsL := [(.int (1 : Int32))]) (rest := [(.int (3 : Int32)), (.ref b617)]) (lenOf pd_2 rfl) rfl (by show 2 * 0 + _ ≤ _; exact Nat.le_of_eq rfl) (hb hby at_135) (fun _ _ => ⟨rfl, e659, (by decide : 6 + 0 ≤ _), (by decide : 4434 + 0 ≤ _)⟩)
  dsimp only [Pt.U, Pt.locs, Pt.cells, Pt.slots] at X673 l673 y673 z673 st673 hQ673
  subst l673 y673 z673
  obtain ⟨ns'_673, bs'_673, sz'_673, n'_673, r'_673, rfl, Nq673, Kq673, U673_0, U673_1, U673_2, U673_3, U673_4, U673_5, U673_6, U673_7, U673_8, U673_9, U673_10, U673_11, Pq673_0⟩ := hQ673
  have Q674 : Arv Z T673.heap b610 k610 .boolean (3 : Int32) [(.int (nar .boolean v0)), (.int (nar .boolean v1)), (.int (nar .boolean v2))] (.int (0 : Int32)) := Q660.keep Kq673 (ninS ne619_b610 (ninS ne_b610_b1_622 (ninS ne_b610_b2_622 nin0)))
  have Q675 : Exa Z T673.heap b619 OB := Q661.keep Kq673
  have Q676 : Arv Z T673.heap b3_622 k3_622 .int (4096 : Int32) (own_I cs'_622) (.int (0 : Int32)) := Q662.keep Kq673 (ninS (Ne.symm ne_b619_b3_622) (ninS (Ne.symm pq622_4) (ninS (Ne.symm pq622_5) nin0)))
  have Q677 : Arv Z T673.heap b617 k617 .int (5 : Int32) [(.int (0 : Int32)), (.int (1 : Int32)), (.int r'_654), (.int (0 : Int32)), (.int (0 : Int32))] (.int (0 : Int32)) := U659.keep Kq673 (ninS ne619_b617 (ninS ne_b617_b1_622 (ninS ne_b617_b2_622 nin0)))
  have Z673 : n0 ≤ T673.heap.size := Nat.le_trans Z659 Kq673.1
  have N673 := Fr.app N659 Nq673
  refine own_go (B := T673.setTop (mkF m 138 #[.val (.int p1), .val (.int p2), .val (.int p3), .val (.int p4), .val (.int p5), .val (.ref b610), .val (.ref b617), .val (.int ia), .val (.int ib), .val (.int ic), .val (.int (p4 &&& (3 : Int32))), .val (.int (((p4.toUInt32 >>> ((2 : Int32) &&& 31).toUInt32).toInt32) &&& (3 : Int32))), .val (.ref b619), .unset, .unset, .unset, .unset, .unset, .unset] [(.int r'_673), (.int (3 : Int32)), (.ref b617)])) (fun t k => st673.trans k) ?_
  obtain ⟨cl678, Ar678, q678, S678, M678, Ha678, G678⟩ := Q677
  have hin678 : ¬ ((3 : Int32) < 0 ∨ cl678.slots.size ≤ ((3 : Int32)).toNatClampNeg) := inb_of S678 ⟨by decide, by decide⟩
  obtain ⟨T678, h678, X678, e678, W678, st678⟩ := stI X673 hx hZ rfl Ar678 (j := (3 : Int32)) hin678 (g := (mkF m 138 #[.val (.int p1), .val (.int p2), .val (.int p3), .val (.int p4), .val (.int p5), .val (.ref b610), .val (.ref b617), .val (.int ia), .val (.int ib), .val (.int ic), .val (.int (p4 &&& (3 : Int32))), .val (.int (((p4.toUInt32 >>> ((2 : Int32) &&& 31).toUInt32).toInt32) &&& (3 : Int32))), .val (.ref b619), .unset, .unset, .unset, .unset, .unset, .unset] [(.int r'_673), (.int (3 : Int32)), (.ref b617)])) rfl rfl (hb hby at_138)
  have Q679 : Arv Z h678 b610 k610 .boolean (3 : Int32) [(.int (nar .boolean v0)), (.int (nar .boolean v1)), (.int (nar .boolean v2))] (.int (0 : Int32)) := Q674.other W678 ne617_b610
  have Q680 : Exa Z h678 b619 OB := U673_0.wr W678
  have Q681 : Arv Z h678 b3_622 k3_622 .int (4096 : Int32) (own_I cs'_622) (.int (0 : Int32)) := U673_11.other W678 (Ne.symm ne_b617_b3_622)
  have Q682 : Fld Z h678 b619 OB "variableCount" "I" (.int (3 : Int32)) := U673_1.other W678 (Or.inl (Ne.symm ne619_b617))
  have Q683 : Fld Z h678 b619 OB "maxComputations" "J" (.long (9223372036854775807 : Int64)) := U673_2.other W678 (Or.inl (Ne.symm ne619_b617))
  have Q684 : Fld Z h678 b619 OB "nodes" "[I" (.ref b1_622) := U673_3.other W678 (Or.inl (Ne.symm ne619_b617))
  have Q685 : Fld Z h678 b619 OB "buckets" "[I" (.ref b2_622) := U673_4.other W678 (Or.inl (Ne.symm ne619_b617))
  have Q686 : Fld Z h678 b619 OB "cacheBits" "I" (.int (10 : Int32)) := U673_5.other W678 (Or.inl (Ne.symm ne619_b617))
  have Q687 : Fld Z h678 b619 OB "cache" "[I" (.ref b3_622) := U673_6.other W678 (Or.inl (Ne.symm ne619_b617))
  have Q688 : Fld Z h678 b619 OB "size" "I" (.int sz'_673) := U673_7.other W678 (Or.inl (Ne.symm ne619_b617))
  have Q689 : Fld Z h678 b619 OB "computations" "J" (.long (0 : Int64)) := U673_8.other W678 (Or.inl (Ne.symm ne619_b617))
  have Q690 : Arv Z h678 b1_622 k1_622 .int (256 : Int32) (own_I ns'_673) (.int (0 : Int32)) := U673_9.other W678 (Ne.symm ne_b617_b1_622)
  have Q691 : Arv Z h678 b2_622 k2_622 .int (64 : Int32) (own_I bs'_673) (.int (0 : Int32)) := U673_10.other W678 (Ne.symm ne_b617_b2_622)
  have U678 : Arv Z h678 b617 k617 .int (5 : Int32) [(.int (0 : Int32)), (.int (1 : Int32)), (.int r'_654), (.int r'_673), (.int (0 : Int32))] (.int (0 : Int32)) := Arv.set Ar678 q678 S678 M678 Ha678 G678 rfl W678 3 rfl (Nat.le_of_ble_eq_true rfl)
  have Z678 : n0 ≤ h678.size := Nat.le_trans Z673 (Keep.of_wr W678).1
  have N678 := Fr.snoc X678 N673 low617
  refine own_go st678 ?_
  refine own_go (B := T678.setTop (mkF m 145 #[.val (.int p1), .val (.int p2), .val (.int p3), .val (.int p4), .val (.int p5), .val (.ref b610), .val (.ref b617), .val (.int ia), .val (.int ib), .val (.int ic), .val (.int (p4 &&& (3 : Int32))), .val (.int (((p4.toUInt32 >>> ((2 : Int32) &&& 31).toUInt32).toInt32) &&& (3 : Int32))), .val (.ref b619), .unset, .unset, .unset, .unset, .unset, .unset] [(.int (2 : Int32)), (.ref b619), (.int (4 : Int32)), (.ref b617)])) (fun t k => ?_) ?_
  · refine XS.aload X678.here hx rfl (hb hby at_139) rfl rfl ?_
    refine XS.iconst X678.here hx rfl (hb hby at_141) ?_
    refine XS.aload X678.here hx rfl (hb hby at_142) rfl rfl ?_
    refine XS.iconst X678.here hx rfl (hb hby at_144) ?_
    exact k
  obtain ⟨cq692, kq692, q692a, q692b, q692c⟩ := isOf hZ e678 Q680
  obtain ⟨_, _, ⟨T692, L692, k692, n692⟩, -, X692, ⟨Lc692, hQ692, l692, y692, z692⟩, st692⟩ := X678.virtualBack hx (y := (⟨OB, "variable", "(I)I"⟩ : MethodName)) (z := (⟨OB, "variable", "(I)I"⟩ : MethodName)) hown (mvT hZ (own_w hw 47 rfl)) (mvT hZ (own_w hw 48 rfl)) (notFace_of_selects (args := #[]) (mvT hZ (own_w hw 50 rfl))) (mvT hZ (own_w hw 50 rfl)) (mvT hZ (own_w hw 49 rfl)) (by decide) (backOf (W := 2) (rm7_2 l Z a0 hw [] b619 b1_622 b2_622 b3_622 k1_622 k2_622 k3_622 ns'_673 bs'_673 cs'_622 sz'_673 (0 : Int64) n'_673 h678 n0 Z678 Q680 Q682 Q683 Q684 Q685 Q686 Q687 Q688 Q689 Q690 Q691 Q681 low619 low_b1_622 low_b2_622 ne_b619_b1_622 ne_b619_b2_622 ne_b619_b3_622 pq622_3 pq622_4 pq622_5 Pq673_0.1 Pq673_0.2.1 (by have := Pq654_0.2.2.2.2.1; have := Pq673_0.2.2.2.2.1; omega)) hZ (own_w hw 51 rfl) (own_w hw 5 rfl) (by decide) (by decide)) q692a q692c (g := (mkF m 145 #[.val (.int p1), .val (.int p2), .val (.int p3), .val (.int p4), .val (.int p5), .val (.ref b610), .val (.ref b617), .val (.int ia), .val (.int ib), .val (.int ic), .val (.int (p4 &&& (3 : Int32))), .val (.int (((p4.toUInt32 >>> ((2 : Int32) &&& 31).toUInt32).toInt32) &&& (3 : Int32))), .val (.ref b619), .unset, .unset, .unset, .unset, .unset, .unset] [(.int (2 : Int32)), (.ref b619), (.int (4 : Int32)), (.ref b617)])) rfl (by rw [hml]; rfl) (Steps.refl _) (argsL := [(.int (2 : Int32))]) (rest := [(.int (4 : Int32)), (.ref b617)]) (lenOf pd_2 rfl) rfl (by show 2 * 0 + _ ≤ _; exact Nat.le_of_eq rfl) (hb hby at_145) (fun _ _ => ⟨rfl, e678, (by decide : 6 + 0 ≤ _), (by decide : 4434 + 0 ≤ _)⟩)
  dsimp only [Pt.U, Pt.locs, Pt.cells, Pt.slots] at X692 l692 y692 z692 st692 hQ692
  subst l692 y692 z692
  obtain ⟨ns'_692, bs'_692, sz'_692, n'_692, r'_692, rfl, Nq692, Kq692, U692_0, U692_1, U692_2, U692_3, U692_4, U692_5, U692_6, U692_7, U692_8, U692_9, U692_10, U692_11, Pq692_0⟩ := hQ692
  have Q693 : Arv Z T692.heap b610 k610 .boolean (3 : Int32) [(.int (nar .boolean v0)), (.int (nar .boolean v1)), (.int (nar .boolean v2))] (.int (0 : Int32)) := Q679.keep Kq692 (ninS ne619_b610 (ninS ne_b610_b1_622 (ninS ne_b610_b2_622 nin0)))
  have Q694 : Exa Z T692.heap b619 OB := Q680.keep Kq692
  have Q695 : Arv Z T692.heap b3_622 k3_622 .int (4096 : Int32) (own_I cs'_622) (.int (0 : Int32)) := Q681.keep Kq692 (ninS (Ne.symm ne_b619_b3_622) (ninS (Ne.symm pq622_4) (ninS (Ne.symm pq622_5) nin0)))
  have Q696 : Arv Z T692.heap b617 k617 .int (5 : Int32) [(.int (0 : Int32)), (.int (1 : Int32)), (.int r'_654), (.int r'_673), (.int (0 : Int32))] (.int (0 : Int32)) := U678.keep Kq692 (ninS ne619_b617 (ninS ne_b617_b1_622 (ninS ne_b617_b2_622 nin0)))
  have Z692 : n0 ≤ T692.heap.size := Nat.le_trans Z678 Kq692.1
  have N692 := Fr.app N678 Nq692
  refine own_go (B := T692.setTop (mkF m 148 #[.val (.int p1), .val (.int p2), .val (.int p3), .val (.int p4), .val (.int p5), .val (.ref b610), .val (.ref b617), .val (.int ia), .val (.int ib), .val (.int ic), .val (.int (p4 &&& (3 : Int32))), .val (.int (((p4.toUInt32 >>> ((2 : Int32) &&& 31).toUInt32).toInt32) &&& (3 : Int32))), .val (.ref b619), .unset, .unset, .unset, .unset, .unset, .unset] [(.int r'_692), (.int (4 : Int32)), (.ref b617)])) (fun t k => st692.trans k) ?_
  have qoa := own_opd Pq622_0.1 Pq654_0 Pq673_0 Pq692_0 qia
  have qob := own_opd Pq622_0.1 Pq654_0 Pq673_0 Pq692_0 qib
  have qoc := own_opd Pq622_0.1 Pq654_0 Pq673_0 Pq692_0 qic
  obtain ⟨cl697, Ar697, q697, S697, M697, Ha697, G697⟩ := Q696
  have hin697 : ¬ ((4 : Int32) < 0 ∨ cl697.slots.size ≤ ((4 : Int32)).toNatClampNeg) := inb_of S697 ⟨by decide, by decide⟩
  obtain ⟨T697, h697, X697, e697, W697, st697⟩ := stI X692 hx hZ rfl Ar697 (j := (4 : Int32)) hin697 (g := (mkF m 148 #[.val (.int p1), .val (.int p2), .val (.int p3), .val (.int p4), .val (.int p5), .val (.ref b610), .val (.ref b617), .val (.int ia), .val (.int ib), .val (.int ic), .val (.int (p4 &&& (3 : Int32))), .val (.int (((p4.toUInt32 >>> ((2 : Int32) &&& 31).toUInt32).toInt32) &&& (3 : Int32))), .val (.ref b619), .unset, .unset, .unset, .unset, .unset, .unset] [(.int r'_692), (.int (4 : Int32)), (.ref b617)])) rfl rfl (hb hby at_148)
  have Q698 : Arv Z h697 b610 k610 .boolean (3 : Int32) [(.int (nar .boolean v0)), (.int (nar .boolean v1)), (.int (nar .boolean v2))] (.int (0 : Int32)) := Q693.other W697 ne617_b610
  have Q699 : Exa Z h697 b619 OB := U692_0.wr W697
  have Q700 : Arv Z h697 b3_622 k3_622 .int (4096 : Int32) (own_I cs'_622) (.int (0 : Int32)) := U692_11.other W697 (Ne.symm ne_b617_b3_622)
  have Q701 : Fld Z h697 b619 OB "variableCount" "I" (.int (3 : Int32)) := U692_1.other W697 (Or.inl (Ne.symm ne619_b617))
  have Q702 : Fld Z h697 b619 OB "maxComputations" "J" (.long (9223372036854775807 : Int64)) := U692_2.other W697 (Or.inl (Ne.symm ne619_b617))
  have Q703 : Fld Z h697 b619 OB "nodes" "[I" (.ref b1_622) := U692_3.other W697 (Or.inl (Ne.symm ne619_b617))
  have Q704 : Fld Z h697 b619 OB "buckets" "[I" (.ref b2_622) := U692_4.other W697 (Or.inl (Ne.symm ne619_b617))
  have Q705 : Fld Z h697 b619 OB "cacheBits" "I" (.int (10 : Int32)) := U692_5.other W697 (Or.inl (Ne.symm ne619_b617))
  have Q706 : Fld Z h697 b619 OB "cache" "[I" (.ref b3_622) := U692_6.other W697 (Or.inl (Ne.symm ne619_b617))
  have Q707 : Fld Z h697 b619 OB "size" "I" (.int sz'_692) := U692_7.other W697 (Or.inl (Ne.symm ne619_b617))
  have Q708 : Fld Z h697 b619 OB "computations" "J" (.long (0 : Int64)) := U692_8.other W697 (Or.inl (Ne.symm ne619_b617))
  have Q709 : Arv Z h697 b1_622 k1_622 .int (256 : Int32) (own_I ns'_692) (.int (0 : Int32)) := U692_9.other W697 (Ne.symm ne_b617_b1_622)
  have Q710 : Arv Z h697 b2_622 k2_622 .int (64 : Int32) (own_I bs'_692) (.int (0 : Int32)) := U692_10.other W697 (Ne.symm ne_b617_b2_622)
  have U697 : Arv Z h697 b617 k617 .int (5 : Int32) [(.int (0 : Int32)), (.int (1 : Int32)), (.int r'_654), (.int r'_673), (.int r'_692)] (.int (0 : Int32)) := Arv.set Ar697 q697 S697 M697 Ha697 G697 rfl W697 4 rfl (Nat.le_of_ble_eq_true rfl)
  have Z697 : n0 ≤ h697.size := Nat.le_trans Z692 (Keep.of_wr W697).1
  have N697 := Fr.snoc X697 N692 low617
  refine own_go st697 ?_
  refine own_go (B := T697.setTop (mkF m 157 #[.val (.int p1), .val (.int p2), .val (.int p3), .val (.int p4), .val (.int p5), .val (.ref b610), .val (.ref b617), .val (.int ia), .val (.int ib), .val (.int ic), .val (.int (p4 &&& (3 : Int32))), .val (.int (((p4.toUInt32 >>> ((2 : Int32) &&& 31).toUInt32).toInt32) &&& (3 : Int32))), .val (.ref b619), .unset, .unset, .unset, .unset, .unset, .unset] [(.int ia), (.ref b617), (.int (p4 &&& (3 : Int32))), (.ref b619)])) (fun t k => ?_) ?_
  · refine XS.aload X697.here hx rfl (hb hby at_149) rfl rfl ?_
    refine XS.iload X697.here hx rfl (hb hby at_151) rfl ?_
    refine XS.aload X697.here hx rfl (hb hby at_153) rfl rfl ?_
    refine XS.iload X697.here hx rfl (hb hby at_155) rfl ?_
    exact k
  obtain ⟨cl711, Ar711, q711, S711, M711, Ha711, G711⟩ := id U697
  have hin711 : ¬ (ia < 0 ∨ cl711.slots.size ≤ (ia).toNatClampNeg) := inb_of S711 (own_in5 qia)
  refine own_go (X697.iaload hx (j := ia) (v := (.int ([(0 : Int32), (1 : Int32), r'_654, r'_673, r'_692].getD (ia.toNatClampNeg) 0))) (by rw [e697]; exact Ar711.1) (State.isArrayOf_alike hZ.alike Ar711.2.1) Ar711.2.2 hin711 (Has.at Ha711 hin711 (own_getI2 [(0 : Int32), (1 : Int32), r'_654, r'_673, r'_692] rfl)) (g := (mkF m 157 #[.val (.int p1), .val (.int p2), .val (.int p3), .val (.int p4), .val (.int p5), .val (.ref b610), .val (.ref b617), .val (.int ia), .val (.int ib), .val (.int ic), .val (.int (p4 &&& (3 : Int32))), .val (.int (((p4.toUInt32 >>> ((2 : Int32) &&& 31).toUInt32).toInt32) &&& (3 : Int32))), .val (.ref b619), .unset, .unset, .unset, .unset, .unset, .unset] [(.int ia), (.ref b617), (.int (p4 &&& (3 : Int32))), (.ref b619)])) rfl rfl (hb hby at_157)) ?_
  refine own_go (B := T697.setTop (mkF m 162 #[.val (.int p1), .val (.int p2), .val (.int p3), .val (.int p4), .val (.int p5), .val (.ref b610), .val (.ref b617), .val (.int ia), .val (.int ib), .val (.int ic), .val (.int (p4 &&& (3 : Int32))), .val (.int (((p4.toUInt32 >>> ((2 : Int32) &&& 31).toUInt32).toInt32) &&& (3 : Int32))), .val (.ref b619), .unset, .unset, .unset, .unset, .unset, .unset] [(.int ib), (.ref b617), (.int ([(0 : Int32), (1 : Int32), r'_654, r'_673, r'_692].getD (ia.toNatClampNeg) 0)), (.int (p4 &&& (3 : Int32))), (.ref b619)])) (fun t k => ?_) ?_
  · refine XS.aload X697.here hx rfl (hb hby at_158) rfl rfl ?_
    refine XS.iload X697.here hx rfl (hb hby at_160) rfl ?_
    exact k
  obtain ⟨cl712, Ar712, q712, S712, M712, Ha712, G712⟩ := id U697
  have hin712 : ¬ (ib < 0 ∨ cl712.slots.size ≤ (ib).toNatClampNeg) := inb_of S712 (own_in5 qib)
  refine own_go (X697.iaload hx (j := ib) (v := (.int ([(0 : Int32), (1 : Int32), r'_654, r'_673, r'_692].getD (ib.toNatClampNeg) 0))) (by rw [e697]; exact Ar712.1) (State.isArrayOf_alike hZ.alike Ar712.2.1) Ar712.2.2 hin712 (Has.at Ha712 hin712 (own_getI2 [(0 : Int32), (1 : Int32), r'_654, r'_673, r'_692] rfl)) (g := (mkF m 162 #[.val (.int p1), .val (.int p2), .val (.int p3), .val (.int p4), .val (.int p5), .val (.ref b610), .val (.ref b617), .val (.int ia), .val (.int ib), .val (.int ic), .val (.int (p4 &&& (3 : Int32))), .val (.int (((p4.toUInt32 >>> ((2 : Int32) &&& 31).toUInt32).toInt32) &&& (3 : Int32))), .val (.ref b619), .unset, .unset, .unset, .unset, .unset, .unset] [(.int ib), (.ref b617), (.int ([(0 : Int32), (1 : Int32), r'_654, r'_673, r'_692].getD (ia.toNatClampNeg) 0)), (.int (p4 &&& (3 : Int32))), (.ref b619)])) rfl rfl (hb hby at_162)) ?_
  obtain ⟨_, _, ⟨T713, L713, k713, n713⟩, -, X713, ⟨Lc713, hQ713, l713, y713, z713⟩, st713⟩ := Jvm.LawKit.callS X697 hx (y := (⟨"com/example/decider/decider/logic/bdd/BddEvaluatePinLaw", "combine", "(Lcom/example/decider/decider/logic/bdd/Bdd;III)I"⟩ : MethodName)) hown (mvT hZ (own_w hw 70 rfl)) (mvT hZ (own_w hw 71 rfl)) (mvT hZ (own_w hw 72 rfl)) (mvT hZ (own_w hw 73 rfl)) (by decide) (backOf (W := 0) (rm12 l Z a0 hw [] b619 (p4 &&& (3 : Int32)) ([(0 : Int32), (1 : Int32), r'_654, r'_673, r'_692].getD (ia.toNatClampNeg) 0) ([(0 : Int32), (1 : Int32), r'_654, r'_673, r'_692].getD (ib.toNatClampNeg) 0) b1_622 b2_622 b3_622 k1_622 k2_622 k3_622 ns'_692 bs'_692 cs'_622 sz'_692 (0 : Int64) n'_692 h697 n0 Z697 Q699 Q701 Q702 Q703 Q704 Q705 Q706 Q707 Q708 Q709 Q710 Q700 low619 low_b1_622 low_b2_622 low_b3_622 ne_b619_b1_622 ne_b619_b2_622 ne_b619_b3_622 pq622_3 pq622_4 pq622_5 Pq692_0.1 Pq692_0.2.1 (by have := Pq654_0.2.2.2.2.1; have := Pq673_0.2.2.2.2.1; have := Pq692_0.2.2.2.2.1; omega) (by decide) qoa.1 qob.1) hZ (own_w hw 73 rfl) (own_w hw 72 rfl) (by decide) (by decide)) (g := (mkF m 163 #[.val (.int p1), .val (.int p2), .val (.int p3), .val (.int p4), .val (.int p5), .val (.ref b610), .val (.ref b617), .val (.int ia), .val (.int ib), .val (.int ic), .val (.int (p4 &&& (3 : Int32))), .val (.int (((p4.toUInt32 >>> ((2 : Int32) &&& 31).toUInt32).toInt32) &&& (3 : Int32))), .val (.ref b619), .unset, .unset, .unset, .unset, .unset, .unset] [(.int ([(0 : Int32), (1 : Int32), r'_654, r'_673, r'_692].getD (ib.toNatClampNeg) 0)), (.int ([(0 : Int32), (1 : Int32), r'_654, r'_673, r'_692].getD (ia.toNatClampNeg) 0)), (.int (p4 &&& (3 : Int32))), (.ref b619)])) rfl (by rw [hml]; rfl) (argsL := [(.ref b619), (.int (p4 &&& (3 : Int32))), (.int ([(0 : Int32), (1 : Int32), r'_654, r'_673, r'_692].getD (ia.toNatClampNeg) 0)), (.int ([(0 : Int32), (1 : Int32), r'_654, r'_673, r'_692].getD (ib.toNatClampNeg) 0))]) (rest := []) (lenOf pd_10 rfl) rfl (by show 2 * 0 + _ ≤ _; exact Nat.le_of_eq rfl) (hb hby at_163) (fun _ _ => ⟨rfl, e697, (by decide : 6 + 0 ≤ _), (by decide : 4434 + 0 ≤ _)⟩)
  dsimp only [Pt.U, Pt.locs, Pt.cells, Pt.slots] at X713 l713 y713 z713 st713 hQ713
  subst l713 y713 z713
  obtain ⟨ns'_713, bs'_713, cs'_713, sz'_713, cp'_713, n'_713, r'_713, rfl, Nq713, Kq713, U713_0, U713_1, U713_2, U713_3, U713_4, U713_5, U713_6, U713_7, U713_8, U713_9, U713_10, U713_11, Pq713_0⟩ := hQ713
  have Q714 : Arv Z T713.heap b610 k610 .boolean (3 : Int32) [(.int (nar .boolean v0)), (.int (nar .boolean v1)), (.int (nar .boolean v2))] (.int (0 : Int32)) := Q698.keep Kq713 (ninS ne619_b610 (ninS ne_b610_b1_622 (ninS ne_b610_b2_622 (ninS ne_b610_b3_622 nin0))))
  have Q715 : Exa Z T713.heap b619 OB := Q699.keep Kq713
  have Q716 : Arv Z T713.heap b617 k617 .int (5 : Int32) [(.int (0 : Int32)), (.int (1 : Int32)), (.int r'_654), (.int r'_673), (.int r'_692)] (.int (0 : Int32)) := U697.keep Kq713 (ninS ne619_b617 (ninS ne_b617_b1_622 (ninS ne_b617_b2_622 (ninS ne_b617_b3_622 nin0))))
  have Z713 : n0 ≤ T713.heap.size := Nat.le_trans Z697 Kq713.1
  have N713 := Fr.app N697 Nq713
  refine own_go (B := T713.setTop (mkF m 166 #[.val (.int p1), .val (.int p2), .val (.int p3), .val (.int p4), .val (.int p5), .val (.ref b610), .val (.ref b617), .val (.int ia), .val (.int ib), .val (.int ic), .val (.int (p4 &&& (3 : Int32))), .val (.int (((p4.toUInt32 >>> ((2 : Int32) &&& 31).toUInt32).toInt32) &&& (3 : Int32))), .val (.ref b619), .unset, .unset, .unset, .unset, .unset, .unset] [(.int r'_713)])) st713 ?_
  refine own_go (B := T713.setTop (mkF m 178 #[.val (.int p1), .val (.int p2), .val (.int p3), .val (.int p4), .val (.int p5), .val (.ref b610), .val (.ref b617), .val (.int ia), .val (.int ib), .val (.int ic), .val (.int (p4 &&& (3 : Int32))), .val (.int (((p4.toUInt32 >>> ((2 : Int32) &&& 31).toUInt32).toInt32) &&& (3 : Int32))), .val (.ref b619), .val (.int r'_713), .unset, .unset, .unset, .unset, .unset] [(.int ic), (.ref b617), (.int r'_713), (.int (((p4.toUInt32 >>> ((2 : Int32) &&& 31).toUInt32).toInt32) &&& (3 : Int32))), (.ref b619)])) (fun t k => ?_) ?_
  · refine XS.istore X713.here hx rfl (hb hby at_166) rfl (l' := #[.val (.int p1), .val (.int p2), .val (.int p3), .val (.int p4), .val (.int p5), .val (.ref b610), .val (.ref b617), .val (.int ia), .val (.int ib), .val (.int ic), .val (.int (p4 &&& (3 : Int32))), .val (.int (((p4.toUInt32 >>> ((2 : Int32) &&& 31).toUInt32).toInt32) &&& (3 : Int32))), .val (.ref b619), .val (.int r'_713), .unset, .unset, .unset, .unset, .unset]) rfl ?_
    refine XS.aload X713.here hx rfl (hb hby at_168) rfl rfl ?_
    refine XS.iload X713.here hx rfl (hb hby at_170) rfl ?_
    refine XS.iload X713.here hx rfl (hb hby at_172) rfl ?_
    refine XS.aload X713.here hx rfl (hb hby at_174) rfl rfl ?_
    refine XS.iload X713.here hx rfl (hb hby at_176) rfl ?_
    exact k
  obtain ⟨cl717, Ar717, q717, S717, M717, Ha717, G717⟩ := id Q716
  have hin717 : ¬ (ic < 0 ∨ cl717.slots.size ≤ (ic).toNatClampNeg) := inb_of S717 (own_in5 qic)
  refine own_go (X713.iaload hx (j := ic) (v := (.int ([(0 : Int32), (1 : Int32), r'_654, r'_673, r'_692].getD (ic.toNatClampNeg) 0))) Ar717.1 (State.isArrayOf_alike hZ.alike Ar717.2.1) Ar717.2.2 hin717 (Has.at Ha717 hin717 (own_getI2 [(0 : Int32), (1 : Int32), r'_654, r'_673, r'_692] rfl)) (g := (mkF m 178 #[.val (.int p1), .val (.int p2), .val (.int p3), .val (.int p4), .val (.int p5), .val (.ref b610), .val (.ref b617), .val (.int ia), .val (.int ib), .val (.int ic), .val (.int (p4 &&& (3 : Int32))), .val (.int (((p4.toUInt32 >>> ((2 : Int32) &&& 31).toUInt32).toInt32) &&& (3 : Int32))), .val (.ref b619), .val (.int r'_713), .unset, .unset, .unset, .unset, .unset] [(.int ic), (.ref b617), (.int r'_713), (.int (((p4.toUInt32 >>> ((2 : Int32) &&& 31).toUInt32).toInt32) &&& (3 : Int32))), (.ref b619)])) rfl rfl (hb hby at_178)) ?_
  obtain ⟨_, _, ⟨T718, L718, k718, n718⟩, -, X718, ⟨Lc718, hQ718, l718, y718, z718⟩, st718⟩ := Jvm.LawKit.callS X713 hx (y := (⟨"com/example/decider/decider/logic/bdd/BddEvaluatePinLaw", "combine", "(Lcom/example/decider/decider/logic/bdd/Bdd;III)I"⟩ : MethodName)) hown (mvT hZ (own_w hw 70 rfl)) (mvT hZ (own_w hw 71 rfl)) (mvT hZ (own_w hw 72 rfl)) (mvT hZ (own_w hw 73 rfl)) (by decide) (backOf (W := 0) (rm12 l Z a0 hw [] b619 (((p4.toUInt32 >>> ((2 : Int32) &&& 31).toUInt32).toInt32) &&& (3 : Int32)) r'_713 ([(0 : Int32), (1 : Int32), r'_654, r'_673, r'_692].getD (ic.toNatClampNeg) 0) b1_622 b2_622 b3_622 k1_622 k2_622 k3_622 ns'_713 bs'_713 cs'_713 sz'_713 cp'_713 n'_713 T713.heap n0 Z713 U713_0 U713_1 U713_2 U713_3 U713_4 U713_5 U713_6 U713_7 U713_8 U713_9 U713_10 U713_11 low619 low_b1_622 low_b2_622 low_b3_622 ne_b619_b1_622 ne_b619_b2_622 ne_b619_b3_622 pq622_3 pq622_4 pq622_5 Pq713_0.1 Pq713_0.2.1 (by have := Pq654_0.2.2.2.2.1; have := Pq673_0.2.2.2.2.1; have := Pq692_0.2.2.2.2.1; have := Pq713_0.2.2.2.2.1; omega) (by have := Pq713_0.2.2.2.2.2.1; have z : (0 : Int64).toInt = 0 := rfl; omega) Pq713_0.2.2.2.2.2.2.1 ⟨qoc.1.1, by have := qoc.1.2; have := Pq713_0.2.2.2.1; omega⟩) hZ (own_w hw 73 rfl) (own_w hw 72 rfl) (by decide) (by decide)) (g := (mkF m 179 #[.val (.int p1), .val (.int p2), .val (.int p3), .val (.int p4), .val (.int p5), .val (.ref b610), .val (.ref b617), .val (.int ia), .val (.int ib), .val (.int ic), .val (.int (p4 &&& (3 : Int32))), .val (.int (((p4.toUInt32 >>> ((2 : Int32) &&& 31).toUInt32).toInt32) &&& (3 : Int32))), .val (.ref b619), .val (.int r'_713), .unset, .unset, .unset, .unset, .unset] [(.int ([(0 : Int32), (1 : Int32), r'_654, r'_673, r'_692].getD (ic.toNatClampNeg) 0)), (.int r'_713), (.int (((p4.toUInt32 >>> ((2 : Int32) &&& 31).toUInt32).toInt32) &&& (3 : Int32))), (.ref b619)])) rfl (by rw [hml]; rfl) (argsL := [(.ref b619), (.int (((p4.toUInt32 >>> ((2 : Int32) &&& 31).toUInt32).toInt32) &&& (3 : Int32))), (.int r'_713), (.int ([(0 : Int32), (1 : Int32), r'_654, r'_673, r'_692].getD (ic.toNatClampNeg) 0))]) (rest := []) (lenOf pd_10 rfl) rfl (by show 2 * 0 + _ ≤ _; exact Nat.le_of_eq rfl) (hb hby at_179) (fun _ _ => ⟨rfl, rfl, (by decide : 6 + 0 ≤ _), (by decide : 4434 + 0 ≤ _)⟩)
  dsimp only [Pt.U, Pt.locs, Pt.cells, Pt.slots] at X718 l718 y718 z718 st718 hQ718
  subst l718 y718 z718
  obtain ⟨ns'_718, bs'_718, cs'_718, sz'_718, cp'_718, n'_718, r'_718, rfl, Nq718, Kq718, U718_0, U718_1, U718_2, U718_3, U718_4, U718_5, U718_6, U718_7, U718_8, U718_9, U718_10, U718_11, Pq718_0⟩ := hQ718
  have Q719 : Arv Z T718.heap b610 k610 .boolean (3 : Int32) [(.int (nar .boolean v0)), (.int (nar .boolean v1)), (.int (nar .boolean v2))] (.int (0 : Int32)) := Q714.keep Kq718 (ninS ne619_b610 (ninS ne_b610_b1_622 (ninS ne_b610_b2_622 (ninS ne_b610_b3_622 nin0))))
  have Q720 : Exa Z T718.heap b619 OB := U713_0.keep Kq718
  have Q721 : Arv Z T718.heap b617 k617 .int (5 : Int32) [(.int (0 : Int32)), (.int (1 : Int32)), (.int r'_654), (.int r'_673), (.int r'_692)] (.int (0 : Int32)) := Q716.keep Kq718 (ninS ne619_b617 (ninS ne_b617_b1_622 (ninS ne_b617_b2_622 (ninS ne_b617_b3_622 nin0))))
  have Z718 : n0 ≤ T718.heap.size := Nat.le_trans Z713 Kq718.1
  have N718 := Fr.app N713 Nq718
  refine own_go (B := T718.setTop (mkF m 182 #[.val (.int p1), .val (.int p2), .val (.int p3), .val (.int p4), .val (.int p5), .val (.ref b610), .val (.ref b617), .val (.int ia), .val (.int ib), .val (.int ic), .val (.int (p4 &&& (3 : Int32))), .val (.int (((p4.toUInt32 >>> ((2 : Int32) &&& 31).toUInt32).toInt32) &&& (3 : Int32))), .val (.ref b619), .val (.int r'_713), .unset, .unset, .unset, .unset, .unset] [(.int r'_718)])) st718 ?_
  refine own_go (B := T718.setTop (mkF m 190 #[.val (.int p1), .val (.int p2), .val (.int p3), .val (.int p4), .val (.int p5), .val (.ref b610), .val (.ref b617), .val (.int ia), .val (.int ib), .val (.int ic), .val (.int (p4 &&& (3 : Int32))), .val (.int (((p4.toUInt32 >>> ((2 : Int32) &&& 31).toUInt32).toInt32) &&& (3 : Int32))), .val (.ref b619), .val (.int r'_713), .val (.int r'_718), .unset, .unset, .unset, .unset] [(.ref b610), (.int ia), (.int (p4 &&& (3 : Int32)))])) (fun t k => ?_) ?_
  · refine XS.istore X718.here hx rfl (hb hby at_182) rfl (l' := #[.val (.int p1), .val (.int p2), .val (.int p3), .val (.int p4), .val (.int p5), .val (.ref b610), .val (.ref b617), .val (.int ia), .val (.int ib), .val (.int ic), .val (.int (p4 &&& (3 : Int32))), .val (.int (((p4.toUInt32 >>> ((2 : Int32) &&& 31).toUInt32).toInt32) &&& (3 : Int32))), .val (.ref b619), .val (.int r'_713), .val (.int r'_718), .unset, .unset, .unset, .unset]) rfl ?_
    refine XS.iload X718.here hx rfl (hb hby at_184) rfl ?_
    refine XS.iload X718.here hx rfl (hb hby at_186) rfl ?_
    refine XS.aload X718.here hx rfl (hb hby at_188) rfl rfl ?_
    exact k
  obtain ⟨_, _, ⟨T722, L722, k722, n722⟩, -, X722, ⟨Lc722, hQ722, l722, y722, z722⟩, st722⟩ := Jvm.LawKit.callS X718 hx (y := (⟨"com/example/decider/decider/logic/bdd/BddEvaluatePinLaw", "value", "(I[Z)Z"⟩ : MethodName)) hown (mvT hZ (own_w hw 124 rfl)) (mvT hZ (own_w hw 125 rfl)) (mvT hZ (own_w hw 72 rfl)) (mvT hZ (own_w hw 126 rfl)) (by decide) (backOf (W := 1) (rm25 l Z a0 hw [] ia b610 k610 (nar .boolean v0) (nar .boolean v1) (nar .boolean v2) T718.heap n0 Z718 Q719 qia) hZ (own_w hw 126 rfl) (own_w hw 72 rfl) (by decide) (by decide)) (g := (mkF m 190 #[.val (.int p1), .val (.int p2), .val (.int p3), .val (.int p4), .val (.int p5), .val (.ref b610), .val (.ref b617), .val (.int ia), .val (.int ib), .val (.int ic), .val (.int (p4 &&& (3 : Int32))), .val (.int (((p4.toUInt32 >>> ((2 : Int32) &&& 31).toUInt32).toInt32) &&& (3 : Int32))), .val (.ref b619), .val (.int r'_713), .val (.int r'_718), .unset, .unset, .unset, .unset] [(.ref b610), (.int ia), (.int (p4 &&& (3 : Int32)))])) rfl (by rw [hml]; rfl) (argsL := [(.int ia), (.ref b610)]) (rest := [(.int (p4 &&& (3 : Int32)))]) (lenOf pd_11 rfl) rfl (by show 2 * 0 + _ ≤ _; exact Nat.le_of_eq rfl) (hb hby at_190) (fun _ _ => ⟨rfl, rfl, (by decide : 6 + 0 ≤ _), (by decide : 4434 + 0 ≤ _)⟩)
  dsimp only [Pt.U, Pt.locs, Pt.cells, Pt.slots] at X722 l722 y722 z722 st722 hQ722
  subst l722 y722 z722
  obtain ⟨rfl, Nq722, e722⟩ := hQ722
  have N722 := Fr.app N718 Nq722
  refine own_go (B := T722.setTop (mkF m 193 #[.val (.int p1), .val (.int p2), .val (.int p3), .val (.int p4), .val (.int p5), .val (.ref b610), .val (.ref b617), .val (.int ia), .val (.int ib), .val (.int ic), .val (.int (p4 &&& (3 : Int32))), .val (.int (((p4.toUInt32 >>> ((2 : Int32) &&& 31).toUInt32).toInt32) &&& (3 : Int32))), .val (.ref b619), .val (.int r'_713), .val (.int r'_718), .unset, .unset, .unset, .unset] [(.int (own_vv ia (nar .boolean v0) (nar .boolean v1) (nar .boolean v2))), (.int (p4 &&& (3 : Int32)))])) st722 ?_
  refine own_go (B := T722.setTop (mkF m 197 #[.val (.int p1), .val (.int p2), .val (.int p3), .val (.int p4), .val (.int p5), .val (.ref b610), .val (.ref b617), .val (.int ia), .val (.int ib), .val (.int ic), .val (.int (p4 &&& (3 : Int32))), .val (.int (((p4.toUInt32 >>> ((2 : Int32) &&& 31).toUInt32).toInt32) &&& (3 : Int32))), .val (.ref b619), .val (.int r'_713), .val (.int r'_718), .unset, .unset, .unset, .unset] [(.ref b610), (.int ib), (.int (own_vv ia (nar .boolean v0) (nar .boolean v1) (nar .boolean v2))), (.int (p4 &&& (3 : Int32)))])) (fun t k => ?_) ?_
  · refine XS.iload X722.here hx rfl (hb hby at_193) rfl ?_
    refine XS.aload X722.here hx rfl (hb hby at_195) rfl rfl ?_
    exact k
  obtain ⟨_, _, ⟨T723, L723, k723, n723⟩, -, X723, ⟨Lc723, hQ723, l723, y723, z723⟩, st723⟩ := Jvm.LawKit.callS X722 hx (y := (⟨"com/example/decider/decider/logic/bdd/BddEvaluatePinLaw", "value", "(I[Z)Z"⟩ : MethodName)) hown (mvT hZ (own_w hw 124 rfl)) (mvT hZ (own_w hw 125 rfl)) (mvT hZ (own_w hw 72 rfl)) (mvT hZ (own_w hw 126 rfl)) (by decide) (backOf (W := 2) (rm25 l Z a0 hw [] ib b610 k610 (nar .boolean v0) (nar .boolean v1) (nar .boolean v2) T718.heap n0 Z718 Q719 qib) hZ (own_w hw 126 rfl) (own_w hw 72 rfl) (by decide) (by decide)) (g := (mkF m 197 #[.val (.int p1), .val (.int p2), .val (.int p3), .val (.int p4), .val (.int p5), .val (.ref b610), .val (.ref b617), .val (.int ia), .val (.int ib), .val (.int ic), .val (.int (p4 &&& (3 : Int32))), .val (.int (((p4.toUInt32 >>> ((2 : Int32) &&& 31).toUInt32).toInt32) &&& (3 : Int32))), .val (.ref b619), .val (.int r'_713), .val (.int r'_718), .unset, .unset, .unset, .unset] [(.ref b610), (.int ib), (.int (own_vv ia (nar .boolean v0) (nar .boolean v1) (nar .boolean v2))), (.int (p4 &&& (3 : Int32)))])) rfl (by rw [hml]; rfl) (argsL := [(.int ib), (.ref b610)]) (rest := [(.int (own_vv ia (nar .boolean v0) (nar .boolean v1) (nar .boolean v2))), (.int (p4 &&& (3 : Int32)))]) (lenOf pd_11 rfl) rfl (by show 2 * 0 + _ ≤ _; exact Nat.le_of_eq rfl) (hb hby at_197) (fun _ _ => ⟨rfl, e722, (by decide : 6 + 0 ≤ _), (by decide : 4434 + 0 ≤ _)⟩)
  dsimp only [Pt.U, Pt.locs, Pt.cells, Pt.slots] at X723 l723 y723 z723 st723 hQ723
  subst l723 y723 z723
  obtain ⟨rfl, Nq723, e723⟩ := hQ723
  have N723 := Fr.app N722 Nq723
  refine own_go (B := T723.setTop (mkF m 200 #[.val (.int p1), .val (.int p2), .val (.int p3), .val (.int p4), .val (.int p5), .val (.ref b610), .val (.ref b617), .val (.int ia), .val (.int ib), .val (.int ic), .val (.int (p4 &&& (3 : Int32))), .val (.int (((p4.toUInt32 >>> ((2 : Int32) &&& 31).toUInt32).toInt32) &&& (3 : Int32))), .val (.ref b619), .val (.int r'_713), .val (.int r'_718), .unset, .unset, .unset, .unset] [(.int (own_vv ib (nar .boolean v0) (nar .boolean v1) (nar .boolean v2))), (.int (own_vv ia (nar .boolean v0) (nar .boolean v1) (nar .boolean v2))), (.int (p4 &&& (3 : Int32)))])) st723 ?_
  obtain ⟨_, _, ⟨T724, L724, k724, n724⟩, -, X724, ⟨Lc724, hQ724, l724, y724, z724⟩, st724⟩ := Jvm.LawKit.callS X723 hx (y := (⟨"com/example/decider/decider/logic/bdd/BddEvaluatePinLaw", "op", "(IZZ)Z"⟩ : MethodName)) hown (mvT hZ (own_w hw 127 rfl)) (mvT hZ (own_w hw 128 rfl)) (mvT hZ (own_w hw 72 rfl)) (mvT hZ (own_w hw 129 rfl)) (by decide) (backOf (W := 0) (rm26 l Z a0 hw [] (p4 &&& (3 : Int32)) (own_vv ia (nar .boolean v0) (nar .boolean v1) (nar .boolean v2)) (own_vv ib (nar .boolean v0) (nar .boolean v1) (nar .boolean v2)) T718.heap n0 Z718 ) hZ (own_w hw 129 rfl) (own_w hw 72 rfl) (by decide) (by decide)) (g := (mkF m 200 #[.val (.int p1), .val (.int p2), .val (.int p3), .val (.int p4), .val (.int p5), .val (.ref b610), .val (.ref b617), .val (.int ia), .val (.int ib), .val (.int ic), .val (.int (p4 &&& (3 : Int32))), .val (.int (((p4.toUInt32 >>> ((2 : Int32) &&& 31).toUInt32).toInt32) &&& (3 : Int32))), .val (.ref b619), .val (.int r'_713), .val (.int r'_718), .unset, .unset, .unset, .unset] [(.int (own_vv ib (nar .boolean v0) (nar .boolean v1) (nar .boolean v2))), (.int (own_vv ia (nar .boolean v0) (nar .boolean v1) (nar .boolean v2))), (.int (p4 &&& (3 : Int32)))])) rfl (by rw [hml]; rfl) (argsL := [(.int (p4 &&& (3 : Int32))), (.int (own_vv ia (nar .boolean v0) (nar .boolean v1) (nar .boolean v2))), (.int (own_vv ib (nar .boolean v0) (nar .boolean v1) (nar .boolean v2)))]) (rest := []) (lenOf pd_12 rfl) rfl (by show 2 * 0 + _ ≤ _; exact Nat.le_of_eq rfl) (hb hby at_200) (fun _ _ => ⟨rfl, e723, (by decide : 6 + 0 ≤ _), (by decide : 4434 + 0 ≤ _)⟩)
  dsimp only [Pt.U, Pt.locs, Pt.cells, Pt.slots] at X724 l724 y724 z724 st724 hQ724
  subst l724 y724 z724
  obtain ⟨rfl, Nq724, e724⟩ := hQ724
  have N724 := Fr.app N723 Nq724
  refine own_go (B := T724.setTop (mkF m 203 #[.val (.int p1), .val (.int p2), .val (.int p3), .val (.int p4), .val (.int p5), .val (.ref b610), .val (.ref b617), .val (.int ia), .val (.int ib), .val (.int ic), .val (.int (p4 &&& (3 : Int32))), .val (.int (((p4.toUInt32 >>> ((2 : Int32) &&& 31).toUInt32).toInt32) &&& (3 : Int32))), .val (.ref b619), .val (.int r'_713), .val (.int r'_718), .unset, .unset, .unset, .unset] [(.int (frm26 (p4 &&& (3 : Int32)) (own_vv ia (nar .boolean v0) (nar .boolean v1) (nar .boolean v2)) (own_vv ib (nar .boolean v0) (nar .boolean v1) (nar .boolean v2))))])) st724 ?_
  refine own_go (B := T724.setTop (mkF m 213 #[.val (.int p1), .val (.int p2), .val (.int p3), .val (.int p4), .val (.int p5), .val (.ref b610), .val (.ref b617), .val (.int ia), .val (.int ib), .val (.int ic), .val (.int (p4 &&& (3 : Int32))), .val (.int (((p4.toUInt32 >>> ((2 : Int32) &&& 31).toUInt32).toInt32) &&& (3 : Int32))), .val (.ref b619), .val (.int r'_713), .val (.int r'_718), .val (.int (frm26 (p4 &&& (3 : Int32)) (own_vv ia (nar .boolean v0) (nar .boolean v1) (nar .boolean v2)) (own_vv ib (nar .boolean v0) (nar .boolean v1) (nar .boolean v2)))), .unset, .unset, .unset] [(.ref b610), (.int ic), (.int (frm26 (p4 &&& (3 : Int32)) (own_vv ia (nar .boolean v0) (nar .boolean v1) (nar .boolean v2)) (own_vv ib (nar .boolean v0) (nar .boolean v1) (nar .boolean v2)))), (.int (((p4.toUInt32 >>> ((2 : Int32) &&& 31).toUInt32).toInt32) &&& (3 : Int32)))])) (fun t k => ?_) ?_
  · refine XS.istore X724.here hx rfl (hb hby at_203) rfl (l' := #[.val (.int p1), .val (.int p2), .val (.int p3), .val (.int p4), .val (.int p5), .val (.ref b610), .val (.ref b617), .val (.int ia), .val (.int ib), .val (.int ic), .val (.int (p4 &&& (3 : Int32))), .val (.int (((p4.toUInt32 >>> ((2 : Int32) &&& 31).toUInt32).toInt32) &&& (3 : Int32))), .val (.ref b619), .val (.int r'_713), .val (.int r'_718), .val (.int (frm26 (p4 &&& (3 : Int32)) (own_vv ia (nar .boolean v0) (nar .boolean v1) (nar .boolean v2)) (own_vv ib (nar .boolean v0) (nar .boolean v1) (nar .boolean v2)))), .unset, .unset, .unset]) rfl ?_
    refine XS.iload X724.here hx rfl (hb hby at_205) rfl ?_
    refine XS.iload X724.here hx rfl (hb hby at_207) rfl ?_
    refine XS.iload X724.here hx rfl (hb hby at_209) rfl ?_
    refine XS.aload X724.here hx rfl (hb hby at_211) rfl rfl ?_
    exact k
  obtain ⟨_, _, ⟨T725, L725, k725, n725⟩, -, X725, ⟨Lc725, hQ725, l725, y725, z725⟩, st725⟩ := Jvm.LawKit.callS X724 hx (y := (⟨"com/example/decider/decider/logic/bdd/BddEvaluatePinLaw", "value", "(I[Z)Z"⟩ : MethodName)) hown (mvT hZ (own_w hw 124 rfl)) (mvT hZ (own_w hw 125 rfl)) (mvT hZ (own_w hw 72 rfl)) (mvT hZ (own_w hw 126 rfl)) (by decide) (backOf (W := 2) (rm25 l Z a0 hw [] ic b610 k610 (nar .boolean v0) (nar .boolean v1) (nar .boolean v2) T718.heap n0 Z718 Q719 qic) hZ (own_w hw 126 rfl) (own_w hw 72 rfl) (by decide) (by decide)) (g := (mkF m 213 #[.val (.int p1), .val (.int p2), .val (.int p3), .val (.int p4), .val (.int p5), .val (.ref b610), .val (.ref b617), .val (.int ia), .val (.int ib), .val (.int ic), .val (.int (p4 &&& (3 : Int32))), .val (.int (((p4.toUInt32 >>> ((2 : Int32) &&& 31).toUInt32).toInt32) &&& (3 : Int32))), .val (.ref b619), .val (.int r'_713), .val (.int r'_718), .val (.int (frm26 (p4 &&& (3 : Int32)) (own_vv ia (nar .boolean v0) (nar .boolean v1) (nar .boolean v2)) (own_vv ib (nar .boolean v0) (nar .boolean v1) (nar .boolean v2)))), .unset, .unset, .unset] [(.ref b610), (.int ic), (.int (frm26 (p4 &&& (3 : Int32)) (own_vv ia (nar .boolean v0) (nar .boolean v1) (nar .boolean v2)) (own_vv ib (nar .boolean v0) (nar .boolean v1) (nar .boolean v2)))), (.int (((p4.toUInt32 >>> ((2 : Int32) &&& 31).toUInt32).toInt32) &&& (3 : Int32)))])) rfl (by rw [hml]; rfl) (argsL := [(.int ic), (.ref b610)]) (rest := [(.int (frm26 (p4 &&& (3 : Int32)) (own_vv ia (nar .boolean v0) (nar .boolean v1) (nar .boolean v2)) (own_vv ib (nar .boolean v0) (nar .boolean v1) (nar .boolean v2)))), (.int (((p4.toUInt32 >>> ((2 : Int32) &&& 31).toUInt32).toInt32) &&& (3 : Int32)))]) (lenOf pd_11 rfl) rfl (by show 2 * 0 + _ ≤ _; exact Nat.le_of_eq rfl) (hb hby at_213) (fun _ _ => ⟨rfl, e724, (by decide : 6 + 0 ≤ _), (by decide : 4434 + 0 ≤ _)⟩)
  dsimp only [Pt.U, Pt.locs, Pt.cells, Pt.slots] at X725 l725 y725 z725 st725 hQ725
  subst l725 y725 z725
  obtain ⟨rfl, Nq725, e725⟩ := hQ725
  have N725 := Fr.app N724 Nq725
  refine own_go (B := T725.setTop (mkF m 216 #[.val (.int p1), .val (.int p2), .val (.int p3), .val (.int p4), .val (.int p5), .val (.ref b610), .val (.ref b617), .val (.int ia), .val (.int ib), .val (.int ic), .val (.int (p4 &&& (3 : Int32))), .val (.int (((p4.toUInt32 >>> ((2 : Int32) &&& 31).toUInt32).toInt32) &&& (3 : Int32))), .val (.ref b619), .val (.int r'_713), .val (.int r'_718), .val (.int (frm26 (p4 &&& (3 : Int32)) (own_vv ia (nar .boolean v0) (nar .boolean v1) (nar .boolean v2)) (own_vv ib (nar .boolean v0) (nar .boolean v1) (nar .boolean v2)))), .unset, .unset, .unset] [(.int (own_vv ic (nar .boolean v0) (nar .boolean v1) (nar .boolean v2))), (.int (frm26 (p4 &&& (3 : Int32)) (own_vv ia (nar .boolean v0) (nar .boolean v1) (nar .boolean v2)) (own_vv ib (nar .boolean v0) (nar .boolean v1) (nar .boolean v2)))), (.int (((p4.toUInt32 >>> ((2 : Int32) &&& 31).toUInt32).toInt32) &&& (3 : Int32)))])) st725 ?_
  obtain ⟨_, _, ⟨T726, L726, k726, n726⟩, -, X726, ⟨Lc726, hQ726, l726, y726, z726⟩, st726⟩ := Jvm.LawKit.callS X725 hx (y := (⟨"com/example/decider/decider/logic/bdd/BddEvaluatePinLaw", "op", "(IZZ)Z"⟩ : MethodName)) hown (mvT hZ (own_w hw 127 rfl)) (mvT hZ (own_w hw 128 rfl)) (mvT hZ (own_w hw 72 rfl)) (mvT hZ (own_w hw 129 rfl)) (by decide) (backOf (W := 0) (rm26 l Z a0 hw [] (((p4.toUInt32 >>> ((2 : Int32) &&& 31).toUInt32).toInt32) &&& (3 : Int32)) (frm26 (p4 &&& (3 : Int32)) (own_vv ia (nar .boolean v0) (nar .boolean v1) (nar .boolean v2)) (own_vv ib (nar .boolean v0) (nar .boolean v1) (nar .boolean v2))) (own_vv ic (nar .boolean v0) (nar .boolean v1) (nar .boolean v2)) T718.heap n0 Z718 ) hZ (own_w hw 129 rfl) (own_w hw 72 rfl) (by decide) (by decide)) (g := (mkF m 216 #[.val (.int p1), .val (.int p2), .val (.int p3), .val (.int p4), .val (.int p5), .val (.ref b610), .val (.ref b617), .val (.int ia), .val (.int ib), .val (.int ic), .val (.int (p4 &&& (3 : Int32))), .val (.int (((p4.toUInt32 >>> ((2 : Int32) &&& 31).toUInt32).toInt32) &&& (3 : Int32))), .val (.ref b619), .val (.int r'_713), .val (.int r'_718), .val (.int (frm26 (p4 &&& (3 : Int32)) (own_vv ia (nar .boolean v0) (nar .boolean v1) (nar .boolean v2)) (own_vv ib (nar .boolean v0) (nar .boolean v1) (nar .boolean v2)))), .unset, .unset, .unset] [(.int (own_vv ic (nar .boolean v0) (nar .boolean v1) (nar .boolean v2))), (.int (frm26 (p4 &&& (3 : Int32)) (own_vv ia (nar .boolean v0) (nar .boolean v1) (nar .boolean v2)) (own_vv ib (nar .boolean v0) (nar .boolean v1) (nar .boolean v2)))), (.int (((p4.toUInt32 >>> ((2 : Int32) &&& 31).toUInt32).toInt32) &&& (3 : Int32)))])) rfl (by rw [hml]; rfl) (argsL := [(.int (((p4.toUInt32 >>> ((2 : Int32) &&& 31).toUInt32).toInt32) &&& (3 : Int32))), (.int (frm26 (p4 &&& (3 : Int32)) (own_vv ia (nar .boolean v0) (nar .boolean v1) (nar .boolean v2)) (own_vv ib (nar .boolean v0) (nar .boolean v1) (nar .boolean v2)))), (.int (own_vv ic (nar .boolean v0) (nar .boolean v1) (nar .boolean v2)))]) (rest := []) (lenOf pd_12 rfl) rfl (by show 2 * 0 + _ ≤ _; exact Nat.le_of_eq rfl) (hb hby at_216) (fun _ _ => ⟨rfl, e725, (by decide : 6 + 0 ≤ _), (by decide : 4434 + 0 ≤ _)⟩)
  dsimp only [Pt.U, Pt.locs, Pt.cells, Pt.slots] at X726 l726 y726 z726 st726 hQ726
  subst l726 y726 z726
  obtain ⟨rfl, Nq726, e726⟩ := hQ726
  have N726 := Fr.app N725 Nq726
  refine own_go (B := T726.setTop (mkF m 219 #[.val (.int p1), .val (.int p2), .val (.int p3), .val (.int p4), .val (.int p5), .val (.ref b610), .val (.ref b617), .val (.int ia), .val (.int ib), .val (.int ic), .val (.int (p4 &&& (3 : Int32))), .val (.int (((p4.toUInt32 >>> ((2 : Int32) &&& 31).toUInt32).toInt32) &&& (3 : Int32))), .val (.ref b619), .val (.int r'_713), .val (.int r'_718), .val (.int (frm26 (p4 &&& (3 : Int32)) (own_vv ia (nar .boolean v0) (nar .boolean v1) (nar .boolean v2)) (own_vv ib (nar .boolean v0) (nar .boolean v1) (nar .boolean v2)))), .unset, .unset, .unset] [(.int (frm26 (((p4.toUInt32 >>> ((2 : Int32) &&& 31).toUInt32).toInt32) &&& (3 : Int32)) (frm26 (p4 &&& (3 : Int32)) (own_vv ia (nar .boolean v0) (nar .boolean v1) (nar .boolean v2)) (own_vv ib (nar .boolean v0) (nar .boolean v1) (nar .boolean v2))) (own_vv ic (nar .boolean v0) (nar .boolean v1) (nar .boolean v2))))])) st726 ?_
  refine own_go (B := T726.setTop (mkF m 227 #[.val (.int p1), .val (.int p2), .val (.int p3), .val (.int p4), .val (.int p5), .val (.ref b610), .val (.ref b617), .val (.int ia), .val (.int ib), .val (.int ic), .val (.int (p4 &&& (3 : Int32))), .val (.int (((p4.toUInt32 >>> ((2 : Int32) &&& 31).toUInt32).toInt32) &&& (3 : Int32))), .val (.ref b619), .val (.int r'_713), .val (.int r'_718), .val (.int (frm26 (p4 &&& (3 : Int32)) (own_vv ia (nar .boolean v0) (nar .boolean v1) (nar .boolean v2)) (own_vv ib (nar .boolean v0) (nar .boolean v1) (nar .boolean v2)))), .val (.int (frm26 (((p4.toUInt32 >>> ((2 : Int32) &&& 31).toUInt32).toInt32) &&& (3 : Int32)) (frm26 (p4 &&& (3 : Int32)) (own_vv ia (nar .boolean v0) (nar .boolean v1) (nar .boolean v2)) (own_vv ib (nar .boolean v0) (nar .boolean v1) (nar .boolean v2))) (own_vv ic (nar .boolean v0) (nar .boolean v1) (nar .boolean v2)))), .unset, .unset] [(.ref b610), (.int r'_713), (.ref b619)])) (fun t k => ?_) ?_
  · refine XS.istore X726.here hx rfl (hb hby at_219) rfl (l' := #[.val (.int p1), .val (.int p2), .val (.int p3), .val (.int p4), .val (.int p5), .val (.ref b610), .val (.ref b617), .val (.int ia), .val (.int ib), .val (.int ic), .val (.int (p4 &&& (3 : Int32))), .val (.int (((p4.toUInt32 >>> ((2 : Int32) &&& 31).toUInt32).toInt32) &&& (3 : Int32))), .val (.ref b619), .val (.int r'_713), .val (.int r'_718), .val (.int (frm26 (p4 &&& (3 : Int32)) (own_vv ia (nar .boolean v0) (nar .boolean v1) (nar .boolean v2)) (own_vv ib (nar .boolean v0) (nar .boolean v1) (nar .boolean v2)))), .val (.int (frm26 (((p4.toUInt32 >>> ((2 : Int32) &&& 31).toUInt32).toInt32) &&& (3 : Int32)) (frm26 (p4 &&& (3 : Int32)) (own_vv ia (nar .boolean v0) (nar .boolean v1) (nar .boolean v2)) (own_vv ib (nar .boolean v0) (nar .boolean v1) (nar .boolean v2))) (own_vv ic (nar .boolean v0) (nar .boolean v1) (nar .boolean v2)))), .unset, .unset]) rfl ?_
    refine XS.aload X726.here hx rfl (hb hby at_221) rfl rfl ?_
    refine XS.iload X726.here hx rfl (hb hby at_223) rfl ?_
    refine XS.aload X726.here hx rfl (hb hby at_225) rfl rfl ?_
    exact k
  obtain ⟨cq727, kq727, q727a, q727b, q727c⟩ := isOf hZ e726 U718_0
  obtain ⟨_, _, ⟨T727, L727, k727, n727⟩, -, X727, ⟨Lc727, hQ727, l727, y727, z727⟩, st727⟩ := X726.virtualBack hx (y := (⟨OB, "evaluate", "(I[Z)Z"⟩ : MethodName)) (z := (⟨OB, "evaluate", "(I[Z)Z"⟩ : MethodName)) hown (mvT hZ (own_w hw 130 rfl)) (mvT hZ (own_w hw 131 rfl)) (notFace_of_selects (args := #[]) (mvT hZ (own_w hw 133 rfl))) (mvT hZ (own_w hw 133 rfl)) (mvT hZ (own_w hw 132 rfl)) (by decide) (backOf (W := 0) (rm27 l Z a0 hw [] b619 r'_713 b610 b1_622 k1_622 ns'_718 bs'_718 cs'_718 n'_718 k610 [(nar .boolean v0), (nar .boolean v1), (nar .boolean v2)] T718.heap n0 Z718 U718_0 U718_3 U718_9 Q719 Pq718_0.1 ⟨Pq713_0.2.2.2.2.2.2.1.1, by have := Pq713_0.2.2.2.2.2.2.1.2; have := Pq718_0.2.2.2.1; omega⟩) hZ (own_w hw 134 rfl) (own_w hw 5 rfl) (by decide) (by decide)) q727a q727c (g := (mkF m 227 #[.val (.int p1), .val (.int p2), .val (.int p3), .val (.int p4), .val (.int p5), .val (.ref b610), .val (.ref b617), .val (.int ia), .val (.int ib), .val (.int ic), .val (.int (p4 &&& (3 : Int32))), .val (.int (((p4.toUInt32 >>> ((2 : Int32) &&& 31).toUInt32).toInt32) &&& (3 : Int32))), .val (.ref b619), .val (.int r'_713), .val (.int r'_718), .val (.int (frm26 (p4 &&& (3 : Int32)) (own_vv ia (nar .boolean v0) (nar .boolean v1) (nar .boolean v2)) (own_vv ib (nar .boolean v0) (nar .boolean v1) (nar .boolean v2)))), .val (.int (frm26 (((p4.toUInt32 >>> ((2 : Int32) &&& 31).toUInt32).toInt32) &&& (3 : Int32)) (frm26 (p4 &&& (3 : Int32)) (own_vv ia (nar .boolean v0) (nar .boolean v1) (nar .boolean v2)) (own_vv ib (nar .boolean v0) (nar .boolean v1) (nar .boolean v2))) (own_vv ic (nar .boolean v0) (nar .boolean v1) (nar .boolean v2)))), .unset, .unset] [(.ref b610), (.int r'_713), (.ref b619)])) rfl (by rw [hml]; rfl) (Steps.refl _) (argsL := [(.int r'_713), (.ref b610)]) (rest := []) (lenOf pd_11 rfl) rfl (by show 2 * 0 + _ ≤ _; exact Nat.le_of_eq rfl) (hb hby at_227) (fun _ _ => ⟨rfl, e726, (by decide : 6 + 0 ≤ _), (by decide : 4434 + 0 ≤ _)⟩)
  dsimp only [Pt.U, Pt.locs, Pt.cells, Pt.slots] at X727 l727 y727 z727 st727 hQ727
  subst l727 y727 z727
  obtain ⟨rfl, Nq727, e727⟩ := hQ727
  have N727 := Fr.app N726 Nq727
  refine own_go (B := T727.setTop (mkF m 230 #[.val (.int p1), .val (.int p2), .val (.int p3), .val (.int p4), .val (.int p5), .val (.ref b610), .val (.ref b617), .val (.int ia), .val (.int ib), .val (.int ic), .val (.int (p4 &&& (3 : Int32))), .val (.int (((p4.toUInt32 >>> ((2 : Int32) &&& 31).toUInt32).toInt32) &&& (3 : Int32))), .val (.ref b619), .val (.int r'_713), .val (.int r'_718), .val (.int (frm26 (p4 &&& (3 : Int32)) (own_vv ia (nar .boolean v0) (nar .boolean v1) (nar .boolean v2)) (own_vv ib (nar .boolean v0) (nar .boolean v1) (nar .boolean v2)))), .val (.int (frm26 (((p4.toUInt32 >>> ((2 : Int32) &&& 31).toUInt32).toInt32) &&& (3 : Int32)) (frm26 (p4 &&& (3 : Int32)) (own_vv ia (nar .boolean v0) (nar .boolean v1) (nar .boolean v2)) (own_vv ib (nar .boolean v0) (nar .boolean v1) (nar .boolean v2))) (own_vv ic (nar .boolean v0) (nar .boolean v1) (nar .boolean v2)))), .unset, .unset] [(.int (if own_val ns'_718 (own_rho [(nar .boolean v0), (nar .boolean v1), (nar .boolean v2)]) r'_713.toInt.toNat then (1 : Int32) else (0 : Int32)))])) (fun t k => st727.trans k) ?_
  refine own_go (B := T727.setTop (mkF m 238 #[.val (.int p1), .val (.int p2), .val (.int p3), .val (.int p4), .val (.int p5), .val (.ref b610), .val (.ref b617), .val (.int ia), .val (.int ib), .val (.int ic), .val (.int (p4 &&& (3 : Int32))), .val (.int (((p4.toUInt32 >>> ((2 : Int32) &&& 31).toUInt32).toInt32) &&& (3 : Int32))), .val (.ref b619), .val (.int r'_713), .val (.int r'_718), .val (.int (frm26 (p4 &&& (3 : Int32)) (own_vv ia (nar .boolean v0) (nar .boolean v1) (nar .boolean v2)) (own_vv ib (nar .boolean v0) (nar .boolean v1) (nar .boolean v2)))), .val (.int (frm26 (((p4.toUInt32 >>> ((2 : Int32) &&& 31).toUInt32).toInt32) &&& (3 : Int32)) (frm26 (p4 &&& (3 : Int32)) (own_vv ia (nar .boolean v0) (nar .boolean v1) (nar .boolean v2)) (own_vv ib (nar .boolean v0) (nar .boolean v1) (nar .boolean v2))) (own_vv ic (nar .boolean v0) (nar .boolean v1) (nar .boolean v2)))), .val (.int (if own_val ns'_718 (own_rho [(nar .boolean v0), (nar .boolean v1), (nar .boolean v2)]) r'_713.toInt.toNat then (1 : Int32) else (0 : Int32))), .unset] [(.ref b610), (.int r'_718), (.ref b619)])) (fun t k => ?_) ?_
  · refine XS.istore X727.here hx rfl (hb hby at_230) rfl (l' := #[.val (.int p1), .val (.int p2), .val (.int p3), .val (.int p4), .val (.int p5), .val (.ref b610), .val (.ref b617), .val (.int ia), .val (.int ib), .val (.int ic), .val (.int (p4 &&& (3 : Int32))), .val (.int (((p4.toUInt32 >>> ((2 : Int32) &&& 31).toUInt32).toInt32) &&& (3 : Int32))), .val (.ref b619), .val (.int r'_713), .val (.int r'_718), .val (.int (frm26 (p4 &&& (3 : Int32)) (own_vv ia (nar .boolean v0) (nar .boolean v1) (nar .boolean v2)) (own_vv ib (nar .boolean v0) (nar .boolean v1) (nar .boolean v2)))), .val (.int (frm26 (((p4.toUInt32 >>> ((2 : Int32) &&& 31).toUInt32).toInt32) &&& (3 : Int32)) (frm26 (p4 &&& (3 : Int32)) (own_vv ia (nar .boolean v0) (nar .boolean v1) (nar .boolean v2)) (own_vv ib (nar .boolean v0) (nar .boolean v1) (nar .boolean v2))) (own_vv ic (nar .boolean v0) (nar .boolean v1) (nar .boolean v2)))), .val (.int (if own_val ns'_718 (own_rho [(nar .boolean v0), (nar .boolean v1), (nar .boolean v2)]) r'_713.toInt.toNat then (1 : Int32) else (0 : Int32))), .unset]) rfl ?_
    refine XS.aload X727.here hx rfl (hb hby at_232) rfl rfl ?_
    refine XS.iload X727.here hx rfl (hb hby at_234) rfl ?_
    refine XS.aload X727.here hx rfl (hb hby at_236) rfl rfl ?_
    exact k
  obtain ⟨cq728, kq728, q728a, q728b, q728c⟩ := isOf hZ e727 U718_0
  obtain ⟨_, _, ⟨T728, L728, k728, n728⟩, -, X728, ⟨Lc728, hQ728, l728, y728, z728⟩, st728⟩ := X727.virtualBack hx (y := (⟨OB, "evaluate", "(I[Z)Z"⟩ : MethodName)) (z := (⟨OB, "evaluate", "(I[Z)Z"⟩ : MethodName)) hown (mvT hZ (own_w hw 130 rfl)) (mvT hZ (own_w hw 131 rfl)) (notFace_of_selects (args := #[]) (mvT hZ (own_w hw 133 rfl))) (mvT hZ (own_w hw 133 rfl)) (mvT hZ (own_w hw 132 rfl)) (by decide) (backOf (W := 0) (rm27 l Z a0 hw [] b619 r'_718 b610 b1_622 k1_622 ns'_718 bs'_718 cs'_718 n'_718 k610 [(nar .boolean v0), (nar .boolean v1), (nar .boolean v2)] T718.heap n0 Z718 U718_0 U718_3 U718_9 Q719 Pq718_0.1 Pq718_0.2.2.2.2.2.2.1) hZ (own_w hw 134 rfl) (own_w hw 5 rfl) (by decide) (by decide)) q728a q728c (g := (mkF m 238 #[.val (.int p1), .val (.int p2), .val (.int p3), .val (.int p4), .val (.int p5), .val (.ref b610), .val (.ref b617), .val (.int ia), .val (.int ib), .val (.int ic), .val (.int (p4 &&& (3 : Int32))), .val (.int (((p4.toUInt32 >>> ((2 : Int32) &&& 31).toUInt32).toInt32) &&& (3 : Int32))), .val (.ref b619), .val (.int r'_713), .val (.int r'_718), .val (.int (frm26 (p4 &&& (3 : Int32)) (own_vv ia (nar .boolean v0) (nar .boolean v1) (nar .boolean v2)) (own_vv ib (nar .boolean v0) (nar .boolean v1) (nar .boolean v2)))), .val (.int (frm26 (((p4.toUInt32 >>> ((2 : Int32) &&& 31).toUInt32).toInt32) &&& (3 : Int32)) (frm26 (p4 &&& (3 : Int32)) (own_vv ia (nar .boolean v0) (nar .boolean v1) (nar .boolean v2)) (own_vv ib (nar .boolean v0) (nar .boolean v1) (nar .boolean v2))) (own_vv ic (nar .boolean v0) (nar .boolean v1) (nar .boolean v2)))), .val (.int (if own_val ns'_718 (own_rho [(nar .boolean v0), (nar .boolean v1), (nar .boolean v2)]) r'_713.toInt.toNat then (1 : Int32) else (0 : Int32))), .unset] [(.ref b610), (.int r'_718), (.ref b619)])) rfl (by rw [hml]; rfl) (Steps.refl _) (argsL := [(.int r'_718), (.ref b610)]) (rest := []) (lenOf pd_11 rfl) rfl (by show 2 * 0 + _ ≤ _; exact Nat.le_of_eq rfl) (hb hby at_238) (fun _ _ => ⟨rfl, e727, (by decide : 6 + 0 ≤ _), (by decide : 4434 + 0 ≤ _)⟩)
  dsimp only [Pt.U, Pt.locs, Pt.cells, Pt.slots] at X728 l728 y728 z728 st728 hQ728
  subst l728 y728 z728
  obtain ⟨rfl, Nq728, e728⟩ := hQ728
  have N728 := Fr.app N727 Nq728
  refine own_go (B := T728.setTop (mkF m 241 #[.val (.int p1), .val (.int p2), .val (.int p3), .val (.int p4), .val (.int p5), .val (.ref b610), .val (.ref b617), .val (.int ia), .val (.int ib), .val (.int ic), .val (.int (p4 &&& (3 : Int32))), .val (.int (((p4.toUInt32 >>> ((2 : Int32) &&& 31).toUInt32).toInt32) &&& (3 : Int32))), .val (.ref b619), .val (.int r'_713), .val (.int r'_718), .val (.int (frm26 (p4 &&& (3 : Int32)) (own_vv ia (nar .boolean v0) (nar .boolean v1) (nar .boolean v2)) (own_vv ib (nar .boolean v0) (nar .boolean v1) (nar .boolean v2)))), .val (.int (frm26 (((p4.toUInt32 >>> ((2 : Int32) &&& 31).toUInt32).toInt32) &&& (3 : Int32)) (frm26 (p4 &&& (3 : Int32)) (own_vv ia (nar .boolean v0) (nar .boolean v1) (nar .boolean v2)) (own_vv ib (nar .boolean v0) (nar .boolean v1) (nar .boolean v2))) (own_vv ic (nar .boolean v0) (nar .boolean v1) (nar .boolean v2)))), .val (.int (if own_val ns'_718 (own_rho [(nar .boolean v0), (nar .boolean v1), (nar .boolean v2)]) r'_713.toInt.toNat then (1 : Int32) else (0 : Int32))), .unset] [(.int (if own_val ns'_718 (own_rho [(nar .boolean v0), (nar .boolean v1), (nar .boolean v2)]) r'_718.toInt.toNat then (1 : Int32) else (0 : Int32)))])) (fun t k => st728.trans k) ?_
  refine own_go (B := T728.setTop (mkF m 247 #[.val (.int p1), .val (.int p2), .val (.int p3), .val (.int p4), .val (.int p5), .val (.ref b610), .val (.ref b617), .val (.int ia), .val (.int ib), .val (.int ic), .val (.int (p4 &&& (3 : Int32))), .val (.int (((p4.toUInt32 >>> ((2 : Int32) &&& 31).toUInt32).toInt32) &&& (3 : Int32))), .val (.ref b619), .val (.int r'_713), .val (.int r'_718), .val (.int (frm26 (p4 &&& (3 : Int32)) (own_vv ia (nar .boolean v0) (nar .boolean v1) (nar .boolean v2)) (own_vv ib (nar .boolean v0) (nar .boolean v1) (nar .boolean v2)))), .val (.int (frm26 (((p4.toUInt32 >>> ((2 : Int32) &&& 31).toUInt32).toInt32) &&& (3 : Int32)) (frm26 (p4 &&& (3 : Int32)) (own_vv ia (nar .boolean v0) (nar .boolean v1) (nar .boolean v2)) (own_vv ib (nar .boolean v0) (nar .boolean v1) (nar .boolean v2))) (own_vv ic (nar .boolean v0) (nar .boolean v1) (nar .boolean v2)))), .val (.int (if own_val ns'_718 (own_rho [(nar .boolean v0), (nar .boolean v1), (nar .boolean v2)]) r'_713.toInt.toNat then (1 : Int32) else (0 : Int32))), .val (.int (if own_val ns'_718 (own_rho [(nar .boolean v0), (nar .boolean v1), (nar .boolean v2)]) r'_718.toInt.toNat then (1 : Int32) else (0 : Int32)))] [(.int (frm26 (p4 &&& (3 : Int32)) (own_vv ia (nar .boolean v0) (nar .boolean v1) (nar .boolean v2)) (own_vv ib (nar .boolean v0) (nar .boolean v1) (nar .boolean v2)))), (.int (if own_val ns'_718 (own_rho [(nar .boolean v0), (nar .boolean v1), (nar .boolean v2)]) r'_713.toInt.toNat then (1 : Int32) else (0 : Int32)))])) (fun t k => ?_) ?_
  · refine XS.istore X728.here hx rfl (hb hby at_241) rfl (l' := #[.val (.int p1), .val (.int p2), .val (.int p3), .val (.int p4), .val (.int p5), .val (.ref b610), .val (.ref b617), .val (.int ia), .val (.int ib), .val (.int ic), .val (.int (p4 &&& (3 : Int32))), .val (.int (((p4.toUInt32 >>> ((2 : Int32) &&& 31).toUInt32).toInt32) &&& (3 : Int32))), .val (.ref b619), .val (.int r'_713), .val (.int r'_718), .val (.int (frm26 (p4 &&& (3 : Int32)) (own_vv ia (nar .boolean v0) (nar .boolean v1) (nar .boolean v2)) (own_vv ib (nar .boolean v0) (nar .boolean v1) (nar .boolean v2)))), .val (.int (frm26 (((p4.toUInt32 >>> ((2 : Int32) &&& 31).toUInt32).toInt32) &&& (3 : Int32)) (frm26 (p4 &&& (3 : Int32)) (own_vv ia (nar .boolean v0) (nar .boolean v1) (nar .boolean v2)) (own_vv ib (nar .boolean v0) (nar .boolean v1) (nar .boolean v2))) (own_vv ic (nar .boolean v0) (nar .boolean v1) (nar .boolean v2)))), .val (.int (if own_val ns'_718 (own_rho [(nar .boolean v0), (nar .boolean v1), (nar .boolean v2)]) r'_713.toInt.toNat then (1 : Int32) else (0 : Int32))), .val (.int (if own_val ns'_718 (own_rho [(nar .boolean v0), (nar .boolean v1), (nar .boolean v2)]) r'_718.toInt.toNat then (1 : Int32) else (0 : Int32)))]) rfl ?_
    refine XS.iload X728.here hx rfl (hb hby at_243) rfl ?_
    refine XS.iload X728.here hx rfl (hb hby at_245) rfl ?_
    exact k
  have hc247_729 : ((if own_val ns'_718 (own_rho [(nar .boolean v0), (nar .boolean v1), (nar .boolean v2)]) r'_713.toInt.toNat then (1 : Int32) else (0 : Int32)) = (frm26 (p4 &&& (3 : Int32)) (own_vv ia (nar .boolean v0) (nar .boolean v1) (nar .boolean v2)) (own_vv ib (nar .boolean v0) (nar .boolean v1) (nar .boolean v2)))) := own_inner Pq713_0 Pq718_0 qoa.2 qob.2 qia qib
  refine own_go (B := T728.setTop (mkF m 254 #[.val (.int p1), .val (.int p2), .val (.int p3), .val (.int p4), .val (.int p5), .val (.ref b610), .val (.ref b617), .val (.int ia), .val (.int ib), .val (.int ic), .val (.int (p4 &&& (3 : Int32))), .val (.int (((p4.toUInt32 >>> ((2 : Int32) &&& 31).toUInt32).toInt32) &&& (3 : Int32))), .val (.ref b619), .val (.int r'_713), .val (.int r'_718), .val (.int (frm26 (p4 &&& (3 : Int32)) (own_vv ia (nar .boolean v0) (nar .boolean v1) (nar .boolean v2)) (own_vv ib (nar .boolean v0) (nar .boolean v1) (nar .boolean v2)))), .val (.int (frm26 (((p4.toUInt32 >>> ((2 : Int32) &&& 31).toUInt32).toInt32) &&& (3 : Int32)) (frm26 (p4 &&& (3 : Int32)) (own_vv ia (nar .boolean v0) (nar .boolean v1) (nar .boolean v2)) (own_vv ib (nar .boolean v0) (nar .boolean v1) (nar .boolean v2))) (own_vv ic (nar .boolean v0) (nar .boolean v1) (nar .boolean v2)))), .val (.int (if own_val ns'_718 (own_rho [(nar .boolean v0), (nar .boolean v1), (nar .boolean v2)]) r'_713.toInt.toNat then (1 : Int32) else (0 : Int32))), .val (.int (if own_val ns'_718 (own_rho [(nar .boolean v0), (nar .boolean v1), (nar .boolean v2)]) r'_718.toInt.toNat then (1 : Int32) else (0 : Int32)))] [(.int (frm26 (((p4.toUInt32 >>> ((2 : Int32) &&& 31).toUInt32).toInt32) &&& (3 : Int32)) (frm26 (p4 &&& (3 : Int32)) (own_vv ia (nar .boolean v0) (nar .boolean v1) (nar .boolean v2)) (own_vv ib (nar .boolean v0) (nar .boolean v1) (nar .boolean v2))) (own_vv ic (nar .boolean v0) (nar .boolean v1) (nar .boolean v2)))), (.int (if own_val ns'_718 (own_rho [(nar .boolean v0), (nar .boolean v1), (nar .boolean v2)]) r'_718.toInt.toNat then (1 : Int32) else (0 : Int32)))])) (fun t k => ?_) ?_
  · refine XS.icmpNo X728.here hx rfl (hb hby at_247) rfl (teq hc247_729).2 ?_
    refine XS.iload X728.here hx rfl (hb hby at_250) rfl ?_
    refine XS.iload X728.here hx rfl (hb hby at_252) rfl ?_
    exact k
  have hc254_730 : ((if own_val ns'_718 (own_rho [(nar .boolean v0), (nar .boolean v1), (nar .boolean v2)]) r'_718.toInt.toNat then (1 : Int32) else (0 : Int32)) = (frm26 (((p4.toUInt32 >>> ((2 : Int32) &&& 31).toUInt32).toInt32) &&& (3 : Int32)) (frm26 (p4 &&& (3 : Int32)) (own_vv ia (nar .boolean v0) (nar .boolean v1) (nar .boolean v2)) (own_vv ib (nar .boolean v0) (nar .boolean v1) (nar .boolean v2))) (own_vv ic (nar .boolean v0) (nar .boolean v1) (nar .boolean v2)))) := own_outer Pq692_0.1.1 Pq713_0 Pq718_0 qoa.2 qob.2 qoc qia qib qic
  refine own_go (B := T728.setTop (mkF m 262 #[.val (.int p1), .val (.int p2), .val (.int p3), .val (.int p4), .val (.int p5), .val (.ref b610), .val (.ref b617), .val (.int ia), .val (.int ib), .val (.int ic), .val (.int (p4 &&& (3 : Int32))), .val (.int (((p4.toUInt32 >>> ((2 : Int32) &&& 31).toUInt32).toInt32) &&& (3 : Int32))), .val (.ref b619), .val (.int r'_713), .val (.int r'_718), .val (.int (frm26 (p4 &&& (3 : Int32)) (own_vv ia (nar .boolean v0) (nar .boolean v1) (nar .boolean v2)) (own_vv ib (nar .boolean v0) (nar .boolean v1) (nar .boolean v2)))), .val (.int (frm26 (((p4.toUInt32 >>> ((2 : Int32) &&& 31).toUInt32).toInt32) &&& (3 : Int32)) (frm26 (p4 &&& (3 : Int32)) (own_vv ia (nar .boolean v0) (nar .boolean v1) (nar .boolean v2)) (own_vv ib (nar .boolean v0) (nar .boolean v1) (nar .boolean v2))) (own_vv ic (nar .boolean v0) (nar .boolean v1) (nar .boolean v2)))), .val (.int (if own_val ns'_718 (own_rho [(nar .boolean v0), (nar .boolean v1), (nar .boolean v2)]) r'_713.toInt.toNat then (1 : Int32) else (0 : Int32))), .val (.int (if own_val ns'_718 (own_rho [(nar .boolean v0), (nar .boolean v1), (nar .boolean v2)]) r'_718.toInt.toNat then (1 : Int32) else (0 : Int32)))] [(.int (1 : Int32))])) (fun t k => ?_) ?_
  · refine XS.icmpNo X728.here hx rfl (hb hby at_254) rfl (teq hc254_730).2 ?_
    refine XS.iconst X728.here hx rfl (hb hby at_257) ?_
    refine XS.goto X728.here hx rfl (pc0 := 258) (pc' := 262) rfl (hb hby at_258) (by decide) (by decide) ?_
    exact k
  obtain ⟨fs, hr, hrun, hended, hW, hsame⟩ := X728.leave (v := some (.int (1 : Int32))) (fun h => by rw [Bd.returns] at h; cases h)
  refine ⟨_, _, ?_, hrun, hended, _, _, rfl, ?_, ⟨_, rfl⟩, hW, hsame.mono (by decide) (by decide)⟩
  · show Steps p.tables e below (T728.setTop (mkF m 262 #[.val (.int p1), .val (.int p2), .val (.int p3), .val (.int p4), .val (.int p5), .val (.ref b610), .val (.ref b617), .val (.int ia), .val (.int ib), .val (.int ic), .val (.int (p4 &&& (3 : Int32))), .val (.int (((p4.toUInt32 >>> ((2 : Int32) &&& 31).toUInt32).toInt32) &&& (3 : Int32))), .val (.ref b619), .val (.int r'_713), .val (.int r'_718), .val (.int (frm26 (p4 &&& (3 : Int32)) (own_vv ia (nar .boolean v0) (nar .boolean v1) (nar .boolean v2)) (own_vv ib (nar .boolean v0) (nar .boolean v1) (nar .boolean v2)))), .val (.int (frm26 (((p4.toUInt32 >>> ((2 : Int32) &&& 31).toUInt32).toInt32) &&& (3 : Int32)) (frm26 (p4 &&& (3 : Int32)) (own_vv ia (nar .boolean v0) (nar .boolean v1) (nar .boolean v2)) (own_vv ib (nar .boolean v0) (nar .boolean v1) (nar .boolean v2))) (own_vv ic (nar .boolean v0) (nar .boolean v1) (nar .boolean v2)))), .val (.int (if own_val ns'_718 (own_rho [(nar .boolean v0), (nar .boolean v1), (nar .boolean v2)]) r'_713.toInt.toNat then (1 : Int32) else (0 : Int32))), .val (.int (if own_val ns'_718 (own_rho [(nar .boolean v0), (nar .boolean v1), (nar .boolean v2)]) r'_718.toInt.toNat then (1 : Int32) else (0 : Int32)))] [(.int (1 : Int32))])) _
    exact retN X728 hx (t := .boolean) Bd.returns (by simp) (hb hby at_262) hr
  · show Qrm0 Z p1 p2 p3 p4 p5 h0 n0 _ T728.heap _
    rw [e728]
    exact ⟨rfl, N728⟩
set_option maxRecDepth 65536 in
set_option maxHeartbeats 40000000 in
theorem comes_1 {Post : Tables → Env → Array Value → State → Outcome → State → Prop} (hpost : ∀ tb e args s v u, (limb_1_1.after args s (.returned v) u = true ∧ limb_1_2.after args s (.returned v) u = true ∧ True) → FrameEnd s (.returned v) u (Jvm.fieldLocs frame_1_writes args s ++ Jvm.arrayLocs frame_1_arrays args s ++ Jvm.staticLocs frame_1_statics s) 24 8960 → Post tb e args s (.returned v) u) :
    ArmFor flags0 classFile x code maxLocals ret World_1 tables_1 room_1 Calls_1 rest_1 Pre_1 Post := by
  intro l hfl _ _ p e ha hc hk s m args below hf hA hF happ hP
  obtain ⟨hcalls, hrest, hpre⟩ := hP
  obtain ⟨-, -, -, hnamed, -, -, -, hat⟩ := (Spec.applies_iff hf).mp happ
  obtain ⟨hg, hn⟩ := and_e (Cond.before_iff.mp (show (Jvm.Cond.and given_1 narrow_1).before args s = true from hpre))
  obtain ⟨hg0, hgs⟩ := and_e hg
  obtain ⟨w0, w1, w2, w3, w4, rfl⟩ : ∃ w0 w1 w2 w3 w4 : Value, args = #[w0, w1, w2, w3, w4] := by
    have hs : args.size = 5 := by simpa [Cond.value, given_1] using hg0
    obtain ⟨L⟩ := args
    match L, hs with
    | [w0, w1, w2, w3, w4], _ => exact ⟨w0, w1, w2, w3, w4, rfl⟩
  have hw := fun d (hd : d ∈ tables_1) => atoms_spec (ws := Jvm.Cond.code x code maxLocals ret :: tables_1) hat d (List.mem_cons_of_mem _ hd)
  have hfit : Fit s := fun {y c} hc i hi => by
    obtain ⟨ha, rfl⟩ := Array.getElem?_eq_some_iff.mp hc
    have q := List.all_eq_true.mp ((Array.all_eq_true_iff_forall_mem.mp hF) _ (Array.getElem_mem ha)) i (List.mem_range.mpr hi)
    simpa [Array.getElem?_eq_getElem hi] using q
  obtain ⟨gi0, gr0⟩ := and_e hgs
  obtain ⟨i0, ei0⟩ := is_v gi0
  obtain rfl : w0 = (.int i0) := Option.some.inj ei0
  obtain ⟨gi1, gr1⟩ := and_e gr0
  obtain ⟨i1, ei1⟩ := is_v gi1
  obtain rfl : w1 = (.int i1) := Option.some.inj ei1
  obtain ⟨gi2, gr2⟩ := and_e gr1
  obtain ⟨i2, ei2⟩ := is_v gi2
  obtain rfl : w2 = (.int i2) := Option.some.inj ei2
  obtain ⟨gi3, gr3⟩ := and_e gr2
  obtain ⟨i3, ei3⟩ := is_v gi3
  obtain rfl : w3 = (.int i3) := Option.some.inj ei3
  obtain ⟨i4, ei4⟩ := is_v gr3
  obtain rfl : w4 = (.int i4) := Option.some.inj ei4
  obtain ⟨n, o, h1, h2, h3, _, L, rfl, ⟨hv, N⟩, hq⟩ := rm0 l s _ hw tables_1 i0 i1 i2 i3 i4  s.heap s.heap.size (Nat.le_refl _)  p e ha hc hk s m _ below hf ((Spec.applies_iff_loose hf).mp happ).1 ⟨rfl, State.Warmed39.refl s, rfl⟩ trivial
  obtain rfl := hv
  refine ⟨n, _, h1, h2, h3, hpost _ _ _ _ _ _ ⟨Cond.after_iff.mpr rfl, Cond.after_iff.mpr (eq_i res_at (Term.int_eval (1)) rfl), trivial⟩ ⟨hq.1, hq.2.1, (hq.2.2.sift fun y hy => Or.inr (N y hy)).mono (by decide) (by decide)⟩⟩
theorem main_1_1 : Claimed_1_1 := comes_1 fun _ _ _ _ _ _ h hF => ⟨h.1, hF⟩
theorem main_1_2 : Claimed_1_2 := comes_1 fun _ _ _ _ _ _ h hF => ⟨h.2.1, hF⟩
end Jvm.Pilot.@@N@@
namespace Jvm.Pilot.@@N@@
open Jvm Jvm.ClassFile Sem Op Lib Jvm.Free Jvm.Stand Jvm.Pilot.@@N@@.Jvm.D
/-! MADE BY PROGRAM (witnessworld.py) out of the Statement's table words and the real class files: 18 classes; the members and pool entries that the words name. The judged class is class 1, her method 1. -/
namespace start1
open Jvm.ClassFile
def u (s : String) : CpInfo := .utf8 (stringToUtf16 s)
/-- a pool by its gaps: so many unusable entries, then the entry; so many at the end -/
def gap : Nat → List CpInfo → List CpInfo
  | 0, r => r
  | n + 1, r => .unusable :: gap n r
def poolList (es : List (Nat × CpInfo)) (last : Nat) : List CpInfo := es.foldr (fun e r => gap e.1 (e.2 :: r)) (gap last [])
def pool (es : List (Nat × CpInfo)) (last : Nat) : Array CpInfo := ⟨poolList es last⟩
def fileOf (pool : Array CpInfo) (this : Nat) (attrs : Array Attribute := #[]) (ms : Array MethodInfo := #[]) (fl : Nat := 33) (sup : Nat := 0) (ifs : Array Nat := #[]) (fds : Array FieldInfo := #[]) : ClassFile where
  minorVersion := 0
  majorVersion := 65
  constantPool := pool
  accessFlags := fl
  thisClass := this
  superClass := sup
  interfaces := ifs
  fields := fds
  methods := ms
  attributes := attrs
def plain (name : String) (sup : Option ClassId) : Class where
  name := name
  kind := .ordinary
  loader := none
  accessFlags := 33
  super := sup
  interfaces := #[]
  cf := none
  fields := #[]
  methods := #[]
  instanceTypes := #[]
  staticTypes := #[]
  resolved := #[]
  callSites := []
  init := .initialized
  statics := none
  mirror := none

def pool0 : Array CpInfo := pool [(5, u "<init>"), (0, u "()V"), (1, .class_ 10), (1, u "java/lang/Object")] 113

def k0c0 : Code := { maxStack := 0, maxLocals := 1, code := object_method_1_code, exceptionTable := #[], attributes := #[] }
def k0m0 : Method := { name := "<init>", desc := "()V", sig := { parameters := [], returnType := none }, accessFlags := 1, code := some k0c0 }
/-- java/lang/Object -/
def k0 : Class := { plain "java/lang/Object" none with
  accessFlags := 33
  interfaces := #[]
  cf := some (fileOf pool0 8 #[] #[{ accessFlags := 1, nameIndex := 5, descriptorIndex := 6, attributes := #[] }] 33 0 #[] #[])
  fields := #[]
  methods := #[k0m0]
  instanceTypes := #[]
  staticTypes := #[]
  resolved := Array.replicate 124 none
  statics := none }

def pool1 : Array CpInfo := pool [(2, .class_ 4), (1, u "java/lang/Object"), (0, u "<init>"), (0, u "()V"), (0, .integer 2147483647), (0, .class_ 9), (0, u "com/example/decider/decider/logic/bdd/Bdd"), (2, .long 9223372036854775807), (1, .methodref 8 15), (0, .nameAndType 5 16), (0, u "(IIJ)V"), (0, .methodref 8 18), (0, .nameAndType 19 20), (0, u "variable"), (0, u "(I)I"), (0, .methodref 22 23), (0, .class_ 24), (0, .nameAndType 25 26), (0, u "com/example/decider/decider/logic/bdd/BddEvaluatePinLaw"), (0, u "combine"), (0, u "(Lcom/example/decider/decider/logic/bdd/Bdd;III)I"), (0, .methodref 22 28), (0, .nameAndType 29 30), (0, u "value"), (0, u "(I[Z)Z"), (0, .methodref 22 32), (0, .nameAndType 33 34), (0, u "op"), (0, u "(IZZ)Z"), (0, .methodref 8 36), (0, .nameAndType 37 30), (0, u "evaluate"), (0, .methodref 8 39), (0, .nameAndType 40 41), (0, u "and"), (0, u "(II)I"), (0, .methodref 8 43), (0, .nameAndType 44 41), (0, u "or"), (0, .methodref 8 46), (0, .nameAndType 47 41), (0, u "andNot"), (0, .methodref 8 49), (0, .nameAndType 50 41), (0, u "equivalent"), (2, u "law"), (0, u "(IIIII)Z")] 7

def k1m0 : Method := { name := "<init>", desc := "()V", sig := { parameters := [], returnType := none }, accessFlags := 1, code := none }
def k1c1 : Code := { maxStack := 6, maxLocals := 19, code := code, exceptionTable := #[], attributes := #[] }
def k1m1 : Method := { name := "law", desc := "(IIIII)Z", sig := { parameters := [.int, .int, .int, .int, .int], returnType := some .boolean }, accessFlags := 9, code := some k1c1 }
def k1c2 : Code := { maxStack := 3, maxLocals := 4, code := method_3_code, exceptionTable := #[], attributes := #[] }
def k1m2 : Method := { name := "combine", desc := "(Lcom/example/decider/decider/logic/bdd/Bdd;III)I", sig := { parameters := [(.object "com/example/decider/decider/logic/bdd/Bdd"), .int, .int, .int], returnType := some .int }, accessFlags := 10, code := some k1c2 }
def k1c3 : Code := { maxStack := 3, maxLocals := 2, code := method_4_code, exceptionTable := #[], attributes := #[] }
def k1m3 : Method := { name := "value", desc := "(I[Z)Z", sig := { parameters := [.int, (.array .boolean)], returnType := some .boolean }, accessFlags := 10, code := some k1c3 }
def k1c4 : Code := { maxStack := 2, maxLocals := 3, code := method_5_code, exceptionTable := #[], attributes := #[] }
def k1m4 : Method := { name := "op", desc := "(IZZ)Z", sig := { parameters := [.int, .boolean, .boolean], returnType := some .boolean }, accessFlags := 10, code := some k1c4 }
/-- com/example/decider/decider/logic/bdd/BddEvaluatePinLaw -/
def k1 : Class := { plain "com/example/decider/decider/logic/bdd/BddEvaluatePinLaw" (some 0) with
  accessFlags := 49
  interfaces := #[]
  cf := some (fileOf pool1 22 #[] #[{ accessFlags := 1, nameIndex := 5, descriptorIndex := 6, attributes := #[] }, { accessFlags := 9, nameIndex := 53, descriptorIndex := 54, attributes := #[] }, { accessFlags := 10, nameIndex := 25, descriptorIndex := 26, attributes := #[] }, { accessFlags := 10, nameIndex := 29, descriptorIndex := 30, attributes := #[] }, { accessFlags := 10, nameIndex := 33, descriptorIndex := 34, attributes := #[] }] 49 2 #[] #[])
  fields := #[]
  methods := #[k1m0, k1m1, k1m2, k1m3, k1m4]
  instanceTypes := #[]
  staticTypes := #[]
  resolved := Array.replicate 62 none
  statics := none }

def pool2 : Array CpInfo := pool [(1, .class_ 2), (0, u "java/lang/Integer"), (0, .class_ 4), (0, u "com/example/decider/decider/logic/bdd/Bdd"), (6, u "<init>"), (0, u "(IIJ)V"), (0, .methodref 14 15), (0, .class_ 16), (0, .nameAndType 11 17), (0, u "java/lang/Object"), (0, u "()V"), (7, .fieldref 3 26), (0, .nameAndType 27 28), (0, u "variableCount"), (0, u "I"), (0, .integer 536870909), (0, .methodref 31 32), (0, .class_ 33), (0, .nameAndType 34 35), (0, u "java/lang/Math"), (0, u "min"), (0, u "(II)I"), (0, .fieldref 3 37), (0, .nameAndType 38 28), (0, u "maxNodes"), (0, .fieldref 3 40), (0, .nameAndType 41 42), (0, u "maxComputations"), (0, u "J"), (0, .fieldref 3 44), (0, .nameAndType 45 46), (0, u "nodes"), (0, u "[I"), (0, .methodref 1 48), (0, .nameAndType 49 50), (0, u "highestOneBit"), (0, u "(I)I"), (0, .fieldref 3 52), (0, .nameAndType 53 46), (0, u "buckets"), (0, .methodref 55 56), (0, .class_ 57), (0, .nameAndType 58 59), (0, u "java/util/Arrays"), (0, u "fill"), (0, u "([II)V"), (0, .fieldref 3 61), (0, .nameAndType 62 28), (0, u "cacheBits"), (0, .fieldref 3 64), (0, .nameAndType 65 46), (0, u "cache"), (0, .fieldref 3 67), (0, .nameAndType 68 28), (0, u "size"), (0, .methodref 3 70), (0, .nameAndType 71 72), (0, u "checkVariable"), (0, u "(I)V"), (0, .methodref 3 74), (0, .nameAndType 75 76), (0, u "node"), (0, u "(III)I"), (0, .methodref 3 78), (0, .nameAndType 79 76), (0, u "apply"), (0, .methodref 3 81), (0, .nameAndType 82 50), (0, u "not"), (9, .methodref 3 93), (0, .nameAndType 94 50), (0, u "variableOf"), (2, u "and"), (3, .methodref 31 102), (0, .nameAndType 103 35), (0, u "max"), (0, .methodref 3 105), (0, .nameAndType 106 50), (0, u "high"), (0, .methodref 3 108), (0, .nameAndType 109 110), (0, u "cached"), (0, u "(IIII)I"), (0, .methodref 3 112), (0, .nameAndType 113 114), (0, u "cofactor"), (0, u "(IIZ)I"), (2, u "or"), (0, .methodref 3 119), (0, .nameAndType 120 121), (0, u "store"), (0, u "(IIIII)V"), (6, u "renamings"), (0, .class_ 130), (0, u "com/example/decider/decider/logic/bdd/Bdd$Renaming"), (6, .methodref 3 138), (0, .nameAndType 139 50), (0, u "low"), (37, u "()I"), (7, .fieldref 3 186), (0, .nameAndType 187 42), (0, u "computations"), (4, .methodref 3 193), (0, .nameAndType 194 76), (0, u "terminal"), (0, .methodref 3 196), (0, .nameAndType 197 110), (0, u "hash"), (0, .methodref 3 199), (0, .nameAndType 200 177), (0, u "capacity"), (18, .methodref 3 220), (0, .nameAndType 221 110), (0, u "entry"), (12, .integer 2654435761), (0, .integer 2246822507), (0, .integer 3266489909), (0, u "FALSE"), (2, u "TRUE"), (1, u "INITIAL_CAPACITY"), (1, u "NODE_INTS"), (1, u "LOW"), (0, u "HIGH"), (1, u "NEXT"), (1, u "MAX_CAPACITY"), (0, u "INITIAL_CACHE_BITS"), (1, u "MAX_CACHE_BITS"), (1, u "ENTRY_INTS"), (0, u "OPERATION_BITS"), (0, u "AND"), (0, u "OR"), (0, u "XOR"), (0, u "AND_EXISTS"), (0, u "RENAME"), (0, u "AND_NOT"), (5, u "variable"), (0, u "andNot"), (0, u "equivalent"), (8, u "evaluate"), (0, u "(I[Z)Z")] 27

def k2c0 : Code := { maxStack := 4, maxLocals := 6, code := prog_103_method_2_code, exceptionTable := #[], attributes := #[] }
def k2m0 : Method := { name := "<init>", desc := "(IIJ)V", sig := { parameters := [.int, .int, .long], returnType := none }, accessFlags := 1, code := some k2c0 }
def k2c1 : Code := { maxStack := 4, maxLocals := 2, code := prog_103_method_3_code, exceptionTable := #[], attributes := #[] }
def k2m1 : Method := { name := "variable", desc := "(I)I", sig := { parameters := [.int], returnType := some .int }, accessFlags := 1, code := some k2c1 }
def k2c2 : Code := { maxStack := 4, maxLocals := 2, code := prog_103_method_4_code, exceptionTable := #[], attributes := #[] }
def k2m2 : Method := { name := "not", desc := "(I)I", sig := { parameters := [.int], returnType := some .int }, accessFlags := 1, code := some k2c2 }
def k2c3 : Code := { maxStack := 4, maxLocals := 3, code := prog_103_method_5_code, exceptionTable := #[], attributes := #[] }
def k2m3 : Method := { name := "and", desc := "(II)I", sig := { parameters := [.int, .int], returnType := some .int }, accessFlags := 1, code := some k2c3 }
def k2c4 : Code := { maxStack := 4, maxLocals := 3, code := prog_103_method_6_code, exceptionTable := #[], attributes := #[] }
def k2m4 : Method := { name := "or", desc := "(II)I", sig := { parameters := [.int, .int], returnType := some .int }, accessFlags := 1, code := some k2c4 }
def k2c5 : Code := { maxStack := 4, maxLocals := 3, code := prog_103_method_7_code, exceptionTable := #[], attributes := #[] }
def k2m5 : Method := { name := "andNot", desc := "(II)I", sig := { parameters := [.int, .int], returnType := some .int }, accessFlags := 1, code := some k2c5 }
def k2c6 : Code := { maxStack := 5, maxLocals := 3, code := prog_103_method_8_code, exceptionTable := #[], attributes := #[] }
def k2m6 : Method := { name := "equivalent", desc := "(II)I", sig := { parameters := [.int, .int], returnType := some .int }, accessFlags := 1, code := some k2c6 }
def k2c7 : Code := { maxStack := 3, maxLocals := 4, code := prog_103_method_14_code, exceptionTable := #[], attributes := #[] }
def k2m7 : Method := { name := "evaluate", desc := "(I[Z)Z", sig := { parameters := [.int, (.array .boolean)], returnType := some .boolean }, accessFlags := 1, code := some k2c7 }
def k2c8 : Code := { maxStack := 4, maxLocals := 2, code := prog_103_method_17_code, exceptionTable := #[], attributes := #[] }
def k2m8 : Method := { name := "checkVariable", desc := "(I)V", sig := { parameters := [.int], returnType := none }, accessFlags := 2, code := some k2c8 }
def k2c9 : Code := { maxStack := 2, maxLocals := 5, code := prog_103_method_18_code, exceptionTable := #[], attributes := #[] }
def k2m9 : Method := { name := "cofactor", desc := "(IIZ)I", sig := { parameters := [.int, .int, .boolean], returnType := some .int }, accessFlags := 2, code := some k2c9 }
def k2c10 : Code := { maxStack := 10, maxLocals := 9, code := prog_103_method_19_code, exceptionTable := #[], attributes := #[] }
def k2m10 : Method := { name := "apply", desc := "(III)I", sig := { parameters := [.int, .int, .int], returnType := some .int }, accessFlags := 2, code := some k2c10 }
def k2c11 : Code := { maxStack := 2, maxLocals := 4, code := prog_103_method_20_code, exceptionTable := #[], attributes := #[] }
def k2m11 : Method := { name := "terminal", desc := "(III)I", sig := { parameters := [.int, .int, .int], returnType := some .int }, accessFlags := 10, code := some k2c11 }
def k2c12 : Code := { maxStack := 3, maxLocals := 2, code := prog_103_method_21_code, exceptionTable := #[], attributes := #[] }
def k2m12 : Method := { name := "variableOf", desc := "(I)I", sig := { parameters := [.int], returnType := some .int }, accessFlags := 2, code := some k2c12 }
def k2c13 : Code := { maxStack := 3, maxLocals := 2, code := prog_103_method_22_code, exceptionTable := #[], attributes := #[] }
def k2m13 : Method := { name := "low", desc := "(I)I", sig := { parameters := [.int], returnType := some .int }, accessFlags := 2, code := some k2c13 }
def k2c14 : Code := { maxStack := 3, maxLocals := 2, code := prog_103_method_23_code, exceptionTable := #[], attributes := #[] }
def k2m14 : Method := { name := "high", desc := "(I)I", sig := { parameters := [.int], returnType := some .int }, accessFlags := 2, code := some k2c14 }
def k2c15 : Code := { maxStack := 4, maxLocals := 7, code := prog_103_method_24_code, exceptionTable := #[], attributes := #[] }
def k2m15 : Method := { name := "node", desc := "(III)I", sig := { parameters := [.int, .int, .int], returnType := some .int }, accessFlags := 2, code := some k2c15 }
def k2c16 : Code := { maxStack := 2, maxLocals := 1, code := prog_103_method_25_code, exceptionTable := #[], attributes := #[] }
def k2m16 : Method := { name := "capacity", desc := "()I", sig := { parameters := [], returnType := some .int }, accessFlags := 2, code := some k2c16 }
def k2c17 : Code := { maxStack := 5, maxLocals := 7, code := prog_103_method_27_code, exceptionTable := #[], attributes := #[] }
def k2m17 : Method := { name := "cached", desc := "(IIII)I", sig := { parameters := [.int, .int, .int, .int], returnType := some .int }, accessFlags := 2, code := some k2c17 }
def k2c18 : Code := { maxStack := 5, maxLocals := 7, code := prog_103_method_28_code, exceptionTable := #[], attributes := #[] }
def k2m18 : Method := { name := "store", desc := "(IIIII)V", sig := { parameters := [.int, .int, .int, .int, .int], returnType := none }, accessFlags := 2, code := some k2c18 }
def k2c19 : Code := { maxStack := 5, maxLocals := 5, code := prog_103_method_30_code, exceptionTable := #[], attributes := #[] }
def k2m19 : Method := { name := "entry", desc := "(IIII)I", sig := { parameters := [.int, .int, .int, .int], returnType := some .int }, accessFlags := 2, code := some k2c19 }
def k2c20 : Code := { maxStack := 3, maxLocals := 5, code := prog_103_method_31_code, exceptionTable := #[], attributes := #[] }
def k2m20 : Method := { name := "hash", desc := "(IIII)I", sig := { parameters := [.int, .int, .int, .int], returnType := some .int }, accessFlags := 10, code := some k2c20 }
/-- com/example/decider/decider/logic/bdd/Bdd -/
def k2 : Class := { plain "com/example/decider/decider/logic/bdd/Bdd" (some 0) with
  accessFlags := 49
  interfaces := #[]
  cf := some (fileOf pool2 3 #[.nestMembers #[129]] #[{ accessFlags := 1, nameIndex := 11, descriptorIndex := 12, attributes := #[] }, { accessFlags := 1, nameIndex := 269, descriptorIndex := 50, attributes := #[] }, { accessFlags := 1, nameIndex := 82, descriptorIndex := 50, attributes := #[] }, { accessFlags := 1, nameIndex := 97, descriptorIndex := 35, attributes := #[] }, { accessFlags := 1, nameIndex := 117, descriptorIndex := 35, attributes := #[] }, { accessFlags := 1, nameIndex := 270, descriptorIndex := 35, attributes := #[] }, { accessFlags := 1, nameIndex := 271, descriptorIndex := 35, attributes := #[] }, { accessFlags := 1, nameIndex := 280, descriptorIndex := 281, attributes := #[] }, { accessFlags := 2, nameIndex := 71, descriptorIndex := 72, attributes := #[] }, { accessFlags := 2, nameIndex := 113, descriptorIndex := 114, attributes := #[] }, { accessFlags := 2, nameIndex := 79, descriptorIndex := 76, attributes := #[] }, { accessFlags := 10, nameIndex := 194, descriptorIndex := 76, attributes := #[] }, { accessFlags := 2, nameIndex := 94, descriptorIndex := 50, attributes := #[] }, { accessFlags := 2, nameIndex := 139, descriptorIndex := 50, attributes := #[] }, { accessFlags := 2, nameIndex := 106, descriptorIndex := 50, attributes := #[] }, { accessFlags := 2, nameIndex := 75, descriptorIndex := 76, attributes := #[] }, { accessFlags := 2, nameIndex := 200, descriptorIndex := 177, attributes := #[] }, { accessFlags := 2, nameIndex := 109, descriptorIndex := 110, attributes := #[] }, { accessFlags := 2, nameIndex := 120, descriptorIndex := 121, attributes := #[] }, { accessFlags := 2, nameIndex := 221, descriptorIndex := 110, attributes := #[] }, { accessFlags := 10, nameIndex := 197, descriptorIndex := 110, attributes := #[] }] 49 14 #[] #[{ accessFlags := 25, nameIndex := 237, descriptorIndex := 28, attributes := #[] }, { accessFlags := 25, nameIndex := 240, descriptorIndex := 28, attributes := #[] }, { accessFlags := 26, nameIndex := 242, descriptorIndex := 28, attributes := #[] }, { accessFlags := 26, nameIndex := 244, descriptorIndex := 28, attributes := #[] }, { accessFlags := 26, nameIndex := 246, descriptorIndex := 28, attributes := #[] }, { accessFlags := 26, nameIndex := 247, descriptorIndex := 28, attributes := #[] }, { accessFlags := 26, nameIndex := 249, descriptorIndex := 28, attributes := #[] }, { accessFlags := 26, nameIndex := 251, descriptorIndex := 28, attributes := #[] }, { accessFlags := 26, nameIndex := 252, descriptorIndex := 28, attributes := #[] }, { accessFlags := 26, nameIndex := 254, descriptorIndex := 28, attributes := #[] }, { accessFlags := 26, nameIndex := 256, descriptorIndex := 28, attributes := #[] }, { accessFlags := 26, nameIndex := 257, descriptorIndex := 28, attributes := #[] }, { accessFlags := 26, nameIndex := 258, descriptorIndex := 28, attributes := #[] }, { accessFlags := 26, nameIndex := 259, descriptorIndex := 28, attributes := #[] }, { accessFlags := 26, nameIndex := 260, descriptorIndex := 28, attributes := #[] }, { accessFlags := 26, nameIndex := 261, descriptorIndex := 28, attributes := #[] }, { accessFlags := 26, nameIndex := 262, descriptorIndex := 28, attributes := #[] }, { accessFlags := 26, nameIndex := 263, descriptorIndex := 28, attributes := #[] }, { accessFlags := 18, nameIndex := 27, descriptorIndex := 28, attributes := #[] }, { accessFlags := 18, nameIndex := 38, descriptorIndex := 28, attributes := #[] }, { accessFlags := 18, nameIndex := 41, descriptorIndex := 42, attributes := #[] }, { accessFlags := 2, nameIndex := 45, descriptorIndex := 46, attributes := #[] }, { accessFlags := 2, nameIndex := 53, descriptorIndex := 46, attributes := #[] }, { accessFlags := 2, nameIndex := 68, descriptorIndex := 28, attributes := #[] }, { accessFlags := 2, nameIndex := 62, descriptorIndex := 28, attributes := #[] }, { accessFlags := 2, nameIndex := 65, descriptorIndex := 46, attributes := #[] }, { accessFlags := 2, nameIndex := 187, descriptorIndex := 42, attributes := #[] }, { accessFlags := 2, nameIndex := 128, descriptorIndex := 28, attributes := #[] }])
  fields := #[{ name := "FALSE", type := .int, accessFlags := 25, slot := 0, constantValue := 0 }, { name := "TRUE", type := .int, accessFlags := 25, slot := 1, constantValue := 0 }, { name := "INITIAL_CAPACITY", type := .int, accessFlags := 26, slot := 2, constantValue := 0 }, { name := "NODE_INTS", type := .int, accessFlags := 26, slot := 3, constantValue := 0 }, { name := "LOW", type := .int, accessFlags := 26, slot := 4, constantValue := 0 }, { name := "HIGH", type := .int, accessFlags := 26, slot := 5, constantValue := 0 }, { name := "NEXT", type := .int, accessFlags := 26, slot := 6, constantValue := 0 }, { name := "MAX_CAPACITY", type := .int, accessFlags := 26, slot := 7, constantValue := 0 }, { name := "INITIAL_CACHE_BITS", type := .int, accessFlags := 26, slot := 8, constantValue := 0 }, { name := "MAX_CACHE_BITS", type := .int, accessFlags := 26, slot := 9, constantValue := 0 }, { name := "ENTRY_INTS", type := .int, accessFlags := 26, slot := 10, constantValue := 0 }, { name := "OPERATION_BITS", type := .int, accessFlags := 26, slot := 11, constantValue := 0 }, { name := "AND", type := .int, accessFlags := 26, slot := 12, constantValue := 0 }, { name := "OR", type := .int, accessFlags := 26, slot := 13, constantValue := 0 }, { name := "XOR", type := .int, accessFlags := 26, slot := 14, constantValue := 0 }, { name := "AND_EXISTS", type := .int, accessFlags := 26, slot := 15, constantValue := 0 }, { name := "RENAME", type := .int, accessFlags := 26, slot := 16, constantValue := 0 }, { name := "AND_NOT", type := .int, accessFlags := 26, slot := 17, constantValue := 0 }, { name := "variableCount", type := .int, accessFlags := 18, slot := 0, constantValue := 0 }, { name := "maxNodes", type := .int, accessFlags := 18, slot := 1, constantValue := 0 }, { name := "maxComputations", type := .long, accessFlags := 18, slot := 2, constantValue := 0 }, { name := "nodes", type := (.array .int), accessFlags := 2, slot := 3, constantValue := 0 }, { name := "buckets", type := (.array .int), accessFlags := 2, slot := 4, constantValue := 0 }, { name := "size", type := .int, accessFlags := 2, slot := 5, constantValue := 0 }, { name := "cacheBits", type := .int, accessFlags := 2, slot := 6, constantValue := 0 }, { name := "cache", type := (.array .int), accessFlags := 2, slot := 7, constantValue := 0 }, { name := "computations", type := .long, accessFlags := 2, slot := 8, constantValue := 0 }, { name := "renamings", type := .int, accessFlags := 2, slot := 9, constantValue := 0 }]
  methods := #[k2m0, k2m1, k2m2, k2m3, k2m4, k2m5, k2m6, k2m7, k2m8, k2m9, k2m10, k2m11, k2m12, k2m13, k2m14, k2m15, k2m16, k2m17, k2m18, k2m19, k2m20]
  instanceTypes := #[.int, .int, .long, (.array .int), (.array .int), .int, .int, (.array .int), .long, .int]
  staticTypes := #[.int, .int, .int, .int, .int, .int, .int, .int, .int, .int, .int, .int, .int, .int, .int, .int, .int, .int]
  resolved := Array.replicate 309 none
  statics := none }

def pool3 : Array CpInfo := pool [(1, .class_ 2), (0, u "java/lang/Math"), (1, .class_ 6), (1, u "java/lang/Object"), (0, u "<init>"), (0, u "()V"), (89, .class_ 100), (1, u "java/lang/Math$RandomNumberGeneratorHolder"), (71, u "negativeZeroFloatBits"), (0, u "J"), (2, u "negativeZeroDoubleBits"), (21, u "max"), (2, u "min"), (43, u "$assertionsDisabled"), (0, u "Z"), (88, u "(II)I"), (2, u "twoToTheDoubleScaleDown"), (0, u "D"), (4, u "twoToTheDoubleScaleUp"), (9, u "E"), (3, u "PI"), (2, u "TAU"), (2, u "DEGREES_TO_RADIANS"), (0, u "RADIANS_TO_DEGREES")] 94

def k3m0 : Method := { name := "<init>", desc := "()V", sig := { parameters := [], returnType := none }, accessFlags := 2, code := none }
def k3c1 : Code := { maxStack := 2, maxLocals := 2, code := jdk_29_method_65_code, exceptionTable := #[], attributes := #[] }
def k3m1 : Method := { name := "max", desc := "(II)I", sig := { parameters := [.int, .int], returnType := some .int }, accessFlags := 9, code := some k3c1 }
def k3c2 : Code := { maxStack := 2, maxLocals := 2, code := jdk_29_method_69_code, exceptionTable := #[], attributes := #[] }
def k3m2 : Method := { name := "min", desc := "(II)I", sig := { parameters := [.int, .int], returnType := some .int }, accessFlags := 9, code := some k3c2 }
/-- java/lang/Math -/
def k3 : Class := { plain "java/lang/Math" (some 0) with
  accessFlags := 49
  interfaces := #[]
  cf := some (fileOf pool3 1 #[.nestMembers #[98]] #[{ accessFlags := 2, nameIndex := 7, descriptorIndex := 8, attributes := #[] }, { accessFlags := 9, nameIndex := 198, descriptorIndex := 335, attributes := #[] }, { accessFlags := 9, nameIndex := 201, descriptorIndex := 335, attributes := #[] }] 49 4 #[] #[{ accessFlags := 25, nameIndex := 354, descriptorIndex := 339, attributes := #[] }, { accessFlags := 25, nameIndex := 358, descriptorIndex := 339, attributes := #[] }, { accessFlags := 25, nameIndex := 361, descriptorIndex := 339, attributes := #[] }, { accessFlags := 26, nameIndex := 364, descriptorIndex := 339, attributes := #[] }, { accessFlags := 26, nameIndex := 365, descriptorIndex := 339, attributes := #[] }, { accessFlags := 26, nameIndex := 172, descriptorIndex := 173, attributes := #[] }, { accessFlags := 26, nameIndex := 176, descriptorIndex := 173, attributes := #[] }, { accessFlags := 8, nameIndex := 344, descriptorIndex := 339, attributes := #[] }, { accessFlags := 8, nameIndex := 338, descriptorIndex := 339, attributes := #[] }, { accessFlags := 4120, nameIndex := 245, descriptorIndex := 246, attributes := #[] }])
  fields := #[{ name := "E", type := .double, accessFlags := 25, slot := 0, constantValue := 0 }, { name := "PI", type := .double, accessFlags := 25, slot := 1, constantValue := 0 }, { name := "TAU", type := .double, accessFlags := 25, slot := 2, constantValue := 0 }, { name := "DEGREES_TO_RADIANS", type := .double, accessFlags := 26, slot := 3, constantValue := 0 }, { name := "RADIANS_TO_DEGREES", type := .double, accessFlags := 26, slot := 4, constantValue := 0 }, { name := "negativeZeroFloatBits", type := .long, accessFlags := 26, slot := 5, constantValue := 0 }, { name := "negativeZeroDoubleBits", type := .long, accessFlags := 26, slot := 6, constantValue := 0 }, { name := "twoToTheDoubleScaleUp", type := .double, accessFlags := 8, slot := 7, constantValue := 0 }, { name := "twoToTheDoubleScaleDown", type := .double, accessFlags := 8, slot := 8, constantValue := 0 }, { name := "$assertionsDisabled", type := .boolean, accessFlags := 4120, slot := 9, constantValue := 0 }]
  methods := #[k3m0, k3m1, k3m2]
  instanceTypes := #[]
  staticTypes := #[.double, .double, .double, .double, .double, .long, .long, .double, .double, .boolean]
  resolved := Array.replicate 460 none
  statics := none }

def pool4 : Array CpInfo := pool [(1, .class_ 2), (0, u "java/io/Serializable"), (0, .class_ 4), (0, u "java/lang/Object")] 2

/-- java/io/Serializable -/
def k4 : Class := { plain "java/io/Serializable" (some 0) with
  accessFlags := 1537
  interfaces := #[]
  cf := some (fileOf pool4 1 #[] #[] 1537 3 #[] #[])
  fields := #[]
  methods := #[]
  instanceTypes := #[]
  staticTypes := #[]
  resolved := Array.replicate 7 none
  statics := none }

def pool5 : Array CpInfo := pool [(2, .class_ 4), (1, u "java/lang/Object"), (0, u "<init>"), (0, u "()V"), (1, .class_ 10), (1, u "java/lang/Number"), (2, .class_ 14), (0, u "java/io/Serializable"), (0, u "serialVersionUID"), (0, u "J")] 20

def k5m0 : Method := { name := "<init>", desc := "()V", sig := { parameters := [], returnType := none }, accessFlags := 1, code := none }
/-- java/lang/Number -/
def k5 : Class := { plain "java/lang/Number" (some 0) with
  accessFlags := 1057
  interfaces := #[4]
  cf := some (fileOf pool5 8 #[] #[{ accessFlags := 1, nameIndex := 5, descriptorIndex := 6, attributes := #[] }] 1057 2 #[13] #[{ accessFlags := 26, nameIndex := 15, descriptorIndex := 16, attributes := #[] }])
  fields := #[{ name := "serialVersionUID", type := .long, accessFlags := 26, slot := 0, constantValue := 0 }]
  methods := #[k5m0]
  instanceTypes := #[]
  staticTypes := #[.long]
  resolved := Array.replicate 37 none
  statics := none }

def pool6 : Array CpInfo := pool [(1, .class_ 2), (0, u "java/lang/Comparable"), (0, .class_ 4), (0, u "java/lang/Object")] 7

/-- java/lang/Comparable -/
def k6 : Class := { plain "java/lang/Comparable" (some 0) with
  accessFlags := 1537
  interfaces := #[]
  cf := some (fileOf pool6 1 #[] #[] 1537 3 #[] #[])
  fields := #[]
  methods := #[]
  instanceTypes := #[]
  staticTypes := #[]
  resolved := Array.replicate 12 none
  statics := none }

def pool7 : Array CpInfo := pool [(1, .class_ 2), (0, u "java/lang/constant/Constable"), (0, .class_ 4), (0, u "java/lang/Object")] 6

/-- java/lang/constant/Constable -/
def k7 : Class := { plain "java/lang/constant/Constable" (some 0) with
  accessFlags := 1537
  interfaces := #[]
  cf := some (fileOf pool7 1 #[] #[] 1537 3 #[] #[])
  fields := #[]
  methods := #[]
  instanceTypes := #[]
  staticTypes := #[]
  resolved := Array.replicate 11 none
  statics := none }

def pool8 : Array CpInfo := pool [(1, .class_ 2), (0, u "java/lang/constant/ConstantDesc"), (0, .class_ 4), (0, u "java/lang/Object")] 32

/-- java/lang/constant/ConstantDesc -/
def k8 : Class := { plain "java/lang/constant/ConstantDesc" (some 0) with
  accessFlags := 1537
  interfaces := #[]
  cf := some (fileOf pool8 1 #[] #[] 1537 3 #[] #[])
  fields := #[]
  methods := #[]
  instanceTypes := #[]
  staticTypes := #[]
  resolved := Array.replicate 37 none
  statics := none }

def pool9 : Array CpInfo := pool [(1, .class_ 2), (0, u "java/lang/Integer"), (16, u "digits"), (0, u "[C"), (30, .methodref 1 52), (0, .nameAndType 53 54), (0, u "numberOfLeadingZeros"), (0, u "(I)I"), (30, u "DigitOnes"), (0, u "[B"), (2, u "DigitTens"), (37, .integer 2147483648), (61, .class_ 190), (0, u "java/lang/Integer$IntegerCache"), (3, u "I"), (8, .class_ 204), (0, u "java/lang/Number"), (2, u "value"), (56, .integer 65536), (37, u "TYPE"), (0, u "Ljava/lang/Class;"), (0, .class_ 305), (0, u "java/lang/Comparable"), (0, .class_ 307), (0, u "java/lang/constant/Constable"), (0, .class_ 309), (0, u "java/lang/constant/ConstantDesc"), (0, u "MIN_VALUE"), (1, u "MAX_VALUE"), (3, u "SIZE"), (1, u "BYTES"), (1, u "serialVersionUID"), (0, u "J"), (81, u "highestOneBit")] 49

def k9c0 : Code := { maxStack := 3, maxLocals := 1, code := jdk_33_method_45_code, exceptionTable := #[], attributes := #[] }
def k9m0 : Method := { name := "highestOneBit", desc := "(I)I", sig := { parameters := [.int], returnType := some .int }, accessFlags := 9, code := some k9c0 }
def k9c1 : Code := { maxStack := 3, maxLocals := 2, code := jdk_33_method_47_code, exceptionTable := #[], attributes := #[] }
def k9m1 : Method := { name := "numberOfLeadingZeros", desc := "(I)I", sig := { parameters := [.int], returnType := some .int }, accessFlags := 9, code := some k9c1 }
/-- java/lang/Integer -/
def k9 : Class := { plain "java/lang/Integer" (some 5) with
  accessFlags := 49
  interfaces := #[6, 7, 8]
  cf := some (fileOf pool9 1 #[.nestMembers #[189]] #[{ accessFlags := 9, nameIndex := 403, descriptorIndex := 54, attributes := #[] }, { accessFlags := 9, nameIndex := 53, descriptorIndex := 54, attributes := #[] }] 49 203 #[304, 306, 308] #[{ accessFlags := 25, nameIndex := 310, descriptorIndex := 194, attributes := #[] }, { accessFlags := 25, nameIndex := 312, descriptorIndex := 194, attributes := #[] }, { accessFlags := 25, nameIndex := 302, descriptorIndex := 303, attributes := #[] }, { accessFlags := 24, nameIndex := 19, descriptorIndex := 20, attributes := #[] }, { accessFlags := 24, nameIndex := 89, descriptorIndex := 86, attributes := #[] }, { accessFlags := 24, nameIndex := 85, descriptorIndex := 86, attributes := #[] }, { accessFlags := 18, nameIndex := 207, descriptorIndex := 194, attributes := #[] }, { accessFlags := 25, nameIndex := 316, descriptorIndex := 194, attributes := #[] }, { accessFlags := 25, nameIndex := 318, descriptorIndex := 194, attributes := #[] }, { accessFlags := 26, nameIndex := 320, descriptorIndex := 321, attributes := #[] }])
  fields := #[{ name := "MIN_VALUE", type := .int, accessFlags := 25, slot := 0, constantValue := 0 }, { name := "MAX_VALUE", type := .int, accessFlags := 25, slot := 1, constantValue := 0 }, { name := "TYPE", type := (.object "java/lang/Class"), accessFlags := 25, slot := 2, constantValue := 0 }, { name := "digits", type := (.array .char), accessFlags := 24, slot := 3, constantValue := 0 }, { name := "DigitTens", type := (.array .byte), accessFlags := 24, slot := 4, constantValue := 0 }, { name := "DigitOnes", type := (.array .byte), accessFlags := 24, slot := 5, constantValue := 0 }, { name := "value", type := .int, accessFlags := 18, slot := 0, constantValue := 0 }, { name := "SIZE", type := .int, accessFlags := 25, slot := 6, constantValue := 0 }, { name := "BYTES", type := .int, accessFlags := 25, slot := 7, constantValue := 0 }, { name := "serialVersionUID", type := .long, accessFlags := 26, slot := 8, constantValue := 0 }]
  methods := #[k9m0, k9m1]
  instanceTypes := #[.int]
  staticTypes := #[.int, .int, (.object "java/lang/Class"), (.array .char), (.array .byte), (.array .byte), .int, .int, .long]
  resolved := Array.replicate 453 none
  statics := none }

def pool10 : Array CpInfo := pool [(2, .class_ 4), (1, u "java/lang/Object"), (0, u "<init>"), (0, u "()V"), (7, .class_ 16), (1, u "java/util/Arrays"), (57, .class_ 76), (1, u "java/util/Arrays$NaturalOrder"), (36, .class_ 115), (1, u "java/util/Arrays$LegacyMergeSort"), (1, u "Z"), (257, .class_ 376), (0, u "java/util/Arrays$ArrayList"), (68, u "$assertionsDisabled"), (269, u "MIN_ARRAY_SORT_GRAN"), (0, u "I"), (2, u "INSERTIONSORT_THRESHOLD"), (120, u "fill"), (4, u "([II)V"), (129, .class_ 976), (0, u "java/util/Arrays$ArrayItr")] 52

def k10m0 : Method := { name := "<init>", desc := "()V", sig := { parameters := [], returnType := none }, accessFlags := 2, code := none }
def k10c1 : Code := { maxStack := 3, maxLocals := 4, code := jdk_65_method_103_code, exceptionTable := #[], attributes := #[] }
def k10m1 : Method := { name := "fill", desc := "([II)V", sig := { parameters := [(.array .int), .int], returnType := none }, accessFlags := 9, code := some k10c1 }
/-- java/util/Arrays -/
def k10 : Class := { plain "java/util/Arrays" (some 0) with
  accessFlags := 49
  interfaces := #[]
  cf := some (fileOf pool10 14 #[.nestMembers #[975, 375, 113, 74]] #[{ accessFlags := 2, nameIndex := 5, descriptorIndex := 6, attributes := #[] }, { accessFlags := 9, nameIndex := 840, descriptorIndex := 845, attributes := #[] }] 49 2 #[] #[{ accessFlags := 26, nameIndex := 715, descriptorIndex := 716, attributes := #[] }, { accessFlags := 26, nameIndex := 719, descriptorIndex := 716, attributes := #[] }, { accessFlags := 4120, nameIndex := 445, descriptorIndex := 117, attributes := #[] }])
  fields := #[{ name := "MIN_ARRAY_SORT_GRAN", type := .int, accessFlags := 26, slot := 0, constantValue := 0 }, { name := "INSERTIONSORT_THRESHOLD", type := .int, accessFlags := 26, slot := 1, constantValue := 0 }, { name := "$assertionsDisabled", type := .boolean, accessFlags := 4120, slot := 2, constantValue := 0 }]
  methods := #[k10m0, k10m1]
  instanceTypes := #[]
  staticTypes := #[.int, .int, .boolean]
  resolved := Array.replicate 1029 none
  statics := none }

def pool11 : Array CpInfo := pool [(1, u "java/lang/Cloneable"), (0, .class_ 1), (0, u "java/lang/Object"), (0, .class_ 3)] 3

/-- java/lang/Cloneable -/
def k11 : Class := { plain "java/lang/Cloneable" (some 0) with
  accessFlags := 1537
  interfaces := #[]
  cf := some (fileOf pool11 2 #[] #[] 1537 4 #[] #[])
  fields := #[]
  methods := #[]
  instanceTypes := #[]
  staticTypes := #[]
  resolved := Array.replicate 8 none
  statics := none }

/-- the primitive boolean -/
def k12 : Class := { plain "boolean" none with kind := .primitive 'Z', accessFlags := 0x411 }
/-- [Z -/
def k13 : Class := { plain "[Z" (some 0) with kind := .array 12 .boolean, interfaces := #[11, 4], accessFlags := 1041 }

/-- the primitive byte -/
def k14 : Class := { plain "byte" none with kind := .primitive 'B', accessFlags := 0x411 }
/-- [B -/
def k15 : Class := { plain "[B" (some 0) with kind := .array 14 .byte, interfaces := #[11, 4], accessFlags := 1041 }

/-- the primitive int -/
def k16 : Class := { plain "int" none with kind := .primitive 'I', accessFlags := 0x411 }
/-- [I -/
def k17 : Class := { plain "[I" (some 0) with kind := .array 16 .int, interfaces := #[11, 4], accessFlags := 1041 }

def heap : Heap := #[]
def classes : Array Class := #[k0, k1, k2, k3, k4, k5, k6, k7, k8, k9, k10, k11, k12, k13, k14, k15, k16, k17]
def interned : List (Array UInt16 × Addr) := []
def slotsUsed : Nat := 0
def theMethod : MethodId := ⟨1, 1⟩
def args0 : Array Value := #[.int 2, .int 3, .int 4, .int 5, .int 6]
def aboutOver (below : List Frame) : State where
  vm := { classes := classes, interned := interned.toArray }
  heap := heap
  slotsUsed := slotsUsed
  threads := #[{ frames := .invoking theMethod args0 :: below }]
def below0 : List Frame := [.native { method := ⟨0, 0⟩, args := #[] }]
def about1 : State := aboutOver below0
def p0 : Program := .bare "" "" ""
def e0 : Env := launch0.env 0 0 0
theorem w_frames : about1.frames = Frame.invoking theMethod args0 :: below0 := rfl
set_option maxRecDepth 65536 in
theorem w_args : argsFit about1.vm theMethod args0 = true := by decide +kernel
set_option maxRecDepth 65536 in
theorem w_heap : heapFits about1 = true := by decide +kernel
set_option maxRecDepth 65536 in
theorem w_runnable : about1.curStatus? = some .runnable := by decide +kernel
set_option maxRecDepth 65536 in
theorem w_alone : about1.alone = true := by decide +kernel
set_option maxRecDepth 65536 in
theorem w_named : about1.methodNamed? x = some theMethod := by decide +kernel
set_option maxRecDepth 65536 in
theorem w_hears : about1.hears theMethod below0 = true := by decide +kernel
set_option maxRecDepth 65536 in
theorem w_ripe : about1.ripe theMethod args0 below0 = true := by decide +kernel
theorem w_running : about1.status = .running := rfl
set_option maxRecDepth 65536 in
theorem w_room : about1.hasRoom e0.platform room_1 = true :=
  launch0.hasRoom_least _ room_1 (by decide +kernel) (by decide +kernel) (by decide +kernel) (by decide +kernel) (by decide +kernel) (by decide +kernel)
theorem allAtoms_all (ts : List Jvm.Cond) (a : Array Jvm.Value) (st : Jvm.State) : (allAtoms ts).before a st = ts.all (fun c => c.before a st) := by
  induction ts with
  | nil => rfl
  | cons c t ih =>
    show (Jvm.Cond.and c (allAtoms t)).before a st = _
    rw [Jvm.Cond.before_and, ih, List.all_cons]
def words1 : List Jvm.Cond := Jvm.Cond.code x code maxLocals ret :: tables_1
/-- a 'code' word, met by the world's own term for the bytes: nothing is compared byte by byte -/
theorem code_word {y : MethodName} {bytes : ByteArray} {mx : Nat} {rt : Option FieldType} {a : Array Value} {s : State} {m : MethodId} {meth : Method} {c : Code} (h1 : s.methodNamed? y = some m) (h2 : s.vm.method? m = some meth) (h3 : meth.code = some c) (h4 : c.code = bytes)
    (h5 : (c.maxLocals == mx && c.exceptionTable.isEmpty && decide (c.maxStack ≤ mostOperands) && decide (meth.sig.returnType = rt) && !meth.locks && decide (parseMethodDescriptor y.desc = some meth.sig)) = true) : (Jvm.Cond.code y bytes mx rt).before a s = true := by
  simp only [Bool.and_eq_true, beq_iff_eq, Bool.not_eq_true', decide_eq_true_eq] at h5
  obtain ⟨⟨⟨⟨⟨g1, g2⟩, g3⟩, g4⟩, g5⟩, g6⟩ := h5
  simp [Cond.before, Cond.holds, Cond.value, h1, h2, h3, h4, g1, g2, g3, g4, g5, g6]
def isCode : Jvm.Cond → Bool
  | .code _ _ _ _ => true
  | _ => false
theorem all_split {L : List Jvm.Cond} {P : Jvm.Cond → Bool} (h1 : L.all (fun c => isCode c || P c) = true) (h2 : ∀ c ∈ L.filter isCode, P c = true) : L.all P = true := by
  refine List.all_eq_true.mpr fun c hc => ?_
  have h := List.all_eq_true.mp h1 c hc
  rcases Bool.eq_false_or_eq_true (isCode c) with hi | hi
  · exact h2 c (List.mem_filter.mpr ⟨hc, hi⟩)
  · simpa [hi] using h
set_option maxRecDepth 65536 in
theorem w_c0 : (Jvm.Cond.code x code maxLocals ret).before args0 about1 = true := code_word (m := ⟨1, 1⟩) (meth := k1m1) (c := k1c1) (by decide +kernel) rfl rfl rfl (by decide +kernel)
set_option maxRecDepth 65536 in
theorem w_c1 : (Jvm.Cond.code ({ cls := "com/example/decider/decider/logic/bdd/Bdd", name := "<init>", desc := "(IIJ)V" } : Jvm.MethodName) prog_103_method_2_code (6 : Nat) (Option.none : Option Jvm.ClassFile.FieldType)).before args0 about1 = true := code_word (m := ⟨2, 0⟩) (meth := k2m0) (c := k2c0) (by decide +kernel) rfl rfl rfl (by decide +kernel)
set_option maxRecDepth 65536 in
theorem w_c2 : (Jvm.Cond.code ({ cls := "java/lang/Object", name := "<init>", desc := "()V" } : Jvm.MethodName) object_method_1_code (1 : Nat) (Option.none : Option Jvm.ClassFile.FieldType)).before args0 about1 = true := code_word (m := ⟨0, 0⟩) (meth := k0m0) (c := k0c0) (by decide +kernel) rfl rfl rfl (by decide +kernel)
set_option maxRecDepth 65536 in
theorem w_c3 : (Jvm.Cond.code ({ cls := "java/lang/Math", name := "min", desc := "(II)I" } : Jvm.MethodName) jdk_29_method_69_code (2 : Nat) (Option.some Jvm.ClassFile.FieldType.int)).before args0 about1 = true := code_word (m := ⟨3, 2⟩) (meth := k3m2) (c := k3c2) (by decide +kernel) rfl rfl rfl (by decide +kernel)
set_option maxRecDepth 65536 in
theorem w_c4 : (Jvm.Cond.code ({ cls := "java/lang/Integer", name := "highestOneBit", desc := "(I)I" } : Jvm.MethodName) jdk_33_method_45_code (1 : Nat) (Option.some Jvm.ClassFile.FieldType.int)).before args0 about1 = true := code_word (m := ⟨9, 0⟩) (meth := k9m0) (c := k9c0) (by decide +kernel) rfl rfl rfl (by decide +kernel)
set_option maxRecDepth 65536 in
theorem w_c5 : (Jvm.Cond.code ({ cls := "java/lang/Integer", name := "numberOfLeadingZeros", desc := "(I)I" } : Jvm.MethodName) jdk_33_method_47_code (2 : Nat) (Option.some Jvm.ClassFile.FieldType.int)).before args0 about1 = true := code_word (m := ⟨9, 1⟩) (meth := k9m1) (c := k9c1) (by decide +kernel) rfl rfl rfl (by decide +kernel)
set_option maxRecDepth 65536 in
theorem w_c6 : (Jvm.Cond.code ({ cls := "java/util/Arrays", name := "fill", desc := "([II)V" } : Jvm.MethodName) jdk_65_method_103_code (4 : Nat) (Option.none : Option Jvm.ClassFile.FieldType)).before args0 about1 = true := code_word (m := ⟨10, 1⟩) (meth := k10m1) (c := k10c1) (by decide +kernel) rfl rfl rfl (by decide +kernel)
set_option maxRecDepth 65536 in
theorem w_c7 : (Jvm.Cond.code ({ cls := "com/example/decider/decider/logic/bdd/Bdd", name := "variable", desc := "(I)I" } : Jvm.MethodName) prog_103_method_3_code (2 : Nat) (Option.some Jvm.ClassFile.FieldType.int)).before args0 about1 = true := code_word (m := ⟨2, 1⟩) (meth := k2m1) (c := k2c1) (by decide +kernel) rfl rfl rfl (by decide +kernel)
set_option maxRecDepth 65536 in
theorem w_c8 : (Jvm.Cond.code ({ cls := "com/example/decider/decider/logic/bdd/Bdd", name := "checkVariable", desc := "(I)V" } : Jvm.MethodName) prog_103_method_17_code (2 : Nat) (Option.none : Option Jvm.ClassFile.FieldType)).before args0 about1 = true := code_word (m := ⟨2, 8⟩) (meth := k2m8) (c := k2c8) (by decide +kernel) rfl rfl rfl (by decide +kernel)
set_option maxRecDepth 65536 in
theorem w_c9 : (Jvm.Cond.code ({ cls := "com/example/decider/decider/logic/bdd/Bdd", name := "node", desc := "(III)I" } : Jvm.MethodName) prog_103_method_24_code (7 : Nat) (Option.some Jvm.ClassFile.FieldType.int)).before args0 about1 = true := code_word (m := ⟨2, 15⟩) (meth := k2m15) (c := k2c15) (by decide +kernel) rfl rfl rfl (by decide +kernel)
set_option maxRecDepth 65536 in
theorem w_c10 : (Jvm.Cond.code ({ cls := "com/example/decider/decider/logic/bdd/Bdd", name := "hash", desc := "(IIII)I" } : Jvm.MethodName) prog_103_method_31_code (5 : Nat) (Option.some Jvm.ClassFile.FieldType.int)).before args0 about1 = true := code_word (m := ⟨2, 20⟩) (meth := k2m20) (c := k2c20) (by decide +kernel) rfl rfl rfl (by decide +kernel)
set_option maxRecDepth 65536 in
theorem w_c11 : (Jvm.Cond.code ({ cls := "com/example/decider/decider/logic/bdd/Bdd", name := "capacity", desc := "()I" } : Jvm.MethodName) prog_103_method_25_code (1 : Nat) (Option.some Jvm.ClassFile.FieldType.int)).before args0 about1 = true := code_word (m := ⟨2, 16⟩) (meth := k2m16) (c := k2c16) (by decide +kernel) rfl rfl rfl (by decide +kernel)
set_option maxRecDepth 65536 in
theorem w_c12 : (Jvm.Cond.code ({ cls := "com/example/decider/decider/logic/bdd/BddEvaluatePinLaw", name := "combine", desc := "(Lcom/example/decider/decider/logic/bdd/Bdd;III)I" } : Jvm.MethodName) method_3_code (4 : Nat) (Option.some Jvm.ClassFile.FieldType.int)).before args0 about1 = true := code_word (m := ⟨1, 2⟩) (meth := k1m2) (c := k1c2) (by decide +kernel) rfl rfl rfl (by decide +kernel)
set_option maxRecDepth 65536 in
theorem w_c13 : (Jvm.Cond.code ({ cls := "com/example/decider/decider/logic/bdd/Bdd", name := "or", desc := "(II)I" } : Jvm.MethodName) prog_103_method_6_code (3 : Nat) (Option.some Jvm.ClassFile.FieldType.int)).before args0 about1 = true := code_word (m := ⟨2, 4⟩) (meth := k2m4) (c := k2c4) (by decide +kernel) rfl rfl rfl (by decide +kernel)
set_option maxRecDepth 65536 in
theorem w_c14 : (Jvm.Cond.code ({ cls := "com/example/decider/decider/logic/bdd/Bdd", name := "apply", desc := "(III)I" } : Jvm.MethodName) prog_103_method_19_code (9 : Nat) (Option.some Jvm.ClassFile.FieldType.int)).before args0 about1 = true := code_word (m := ⟨2, 10⟩) (meth := k2m10) (c := k2c10) (by decide +kernel) rfl rfl rfl (by decide +kernel)
set_option maxRecDepth 65536 in
theorem w_c15 : (Jvm.Cond.code ({ cls := "java/lang/Math", name := "max", desc := "(II)I" } : Jvm.MethodName) jdk_29_method_65_code (2 : Nat) (Option.some Jvm.ClassFile.FieldType.int)).before args0 about1 = true := code_word (m := ⟨3, 1⟩) (meth := k3m1) (c := k3c1) (by decide +kernel) rfl rfl rfl (by decide +kernel)
set_option maxRecDepth 65536 in
theorem w_c16 : (Jvm.Cond.code ({ cls := "com/example/decider/decider/logic/bdd/Bdd", name := "terminal", desc := "(III)I" } : Jvm.MethodName) prog_103_method_20_code (4 : Nat) (Option.some Jvm.ClassFile.FieldType.int)).before args0 about1 = true := code_word (m := ⟨2, 11⟩) (meth := k2m11) (c := k2c11) (by decide +kernel) rfl rfl rfl (by decide +kernel)
set_option maxRecDepth 65536 in
theorem w_c17 : (Jvm.Cond.code ({ cls := "com/example/decider/decider/logic/bdd/Bdd", name := "and", desc := "(II)I" } : Jvm.MethodName) prog_103_method_5_code (3 : Nat) (Option.some Jvm.ClassFile.FieldType.int)).before args0 about1 = true := code_word (m := ⟨2, 3⟩) (meth := k2m3) (c := k2c3) (by decide +kernel) rfl rfl rfl (by decide +kernel)
set_option maxRecDepth 65536 in
theorem w_c18 : (Jvm.Cond.code ({ cls := "com/example/decider/decider/logic/bdd/Bdd", name := "cached", desc := "(IIII)I" } : Jvm.MethodName) prog_103_method_27_code (7 : Nat) (Option.some Jvm.ClassFile.FieldType.int)).before args0 about1 = true := code_word (m := ⟨2, 17⟩) (meth := k2m17) (c := k2c17) (by decide +kernel) rfl rfl rfl (by decide +kernel)
set_option maxRecDepth 65536 in
theorem w_c19 : (Jvm.Cond.code ({ cls := "com/example/decider/decider/logic/bdd/Bdd", name := "entry", desc := "(IIII)I" } : Jvm.MethodName) prog_103_method_30_code (5 : Nat) (Option.some Jvm.ClassFile.FieldType.int)).before args0 about1 = true := code_word (m := ⟨2, 19⟩) (meth := k2m19) (c := k2c19) (by decide +kernel) rfl rfl rfl (by decide +kernel)
set_option maxRecDepth 65536 in
theorem w_c20 : (Jvm.Cond.code ({ cls := "com/example/decider/decider/logic/bdd/Bdd", name := "variableOf", desc := "(I)I" } : Jvm.MethodName) prog_103_method_21_code (2 : Nat) (Option.some Jvm.ClassFile.FieldType.int)).before args0 about1 = true := code_word (m := ⟨2, 12⟩) (meth := k2m12) (c := k2c12) (by decide +kernel) rfl rfl rfl (by decide +kernel)
set_option maxRecDepth 65536 in
theorem w_c21 : (Jvm.Cond.code ({ cls := "com/example/decider/decider/logic/bdd/Bdd", name := "cofactor", desc := "(IIZ)I" } : Jvm.MethodName) prog_103_method_18_code (5 : Nat) (Option.some Jvm.ClassFile.FieldType.int)).before args0 about1 = true := code_word (m := ⟨2, 9⟩) (meth := k2m9) (c := k2c9) (by decide +kernel) rfl rfl rfl (by decide +kernel)
set_option maxRecDepth 65536 in
theorem w_c22 : (Jvm.Cond.code ({ cls := "com/example/decider/decider/logic/bdd/Bdd", name := "low", desc := "(I)I" } : Jvm.MethodName) prog_103_method_22_code (2 : Nat) (Option.some Jvm.ClassFile.FieldType.int)).before args0 about1 = true := code_word (m := ⟨2, 13⟩) (meth := k2m13) (c := k2c13) (by decide +kernel) rfl rfl rfl (by decide +kernel)
set_option maxRecDepth 65536 in
theorem w_c23 : (Jvm.Cond.code ({ cls := "com/example/decider/decider/logic/bdd/Bdd", name := "high", desc := "(I)I" } : Jvm.MethodName) prog_103_method_23_code (2 : Nat) (Option.some Jvm.ClassFile.FieldType.int)).before args0 about1 = true := code_word (m := ⟨2, 14⟩) (meth := k2m14) (c := k2c14) (by decide +kernel) rfl rfl rfl (by decide +kernel)
set_option maxRecDepth 65536 in
theorem w_c24 : (Jvm.Cond.code ({ cls := "com/example/decider/decider/logic/bdd/Bdd", name := "store", desc := "(IIIII)V" } : Jvm.MethodName) prog_103_method_28_code (7 : Nat) (Option.none : Option Jvm.ClassFile.FieldType)).before args0 about1 = true := code_word (m := ⟨2, 18⟩) (meth := k2m18) (c := k2c18) (by decide +kernel) rfl rfl rfl (by decide +kernel)
set_option maxRecDepth 65536 in
theorem w_c25 : (Jvm.Cond.code ({ cls := "com/example/decider/decider/logic/bdd/BddEvaluatePinLaw", name := "value", desc := "(I[Z)Z" } : Jvm.MethodName) method_4_code (2 : Nat) (Option.some Jvm.ClassFile.FieldType.boolean)).before args0 about1 = true := code_word (m := ⟨1, 3⟩) (meth := k1m3) (c := k1c3) (by decide +kernel) rfl rfl rfl (by decide +kernel)
set_option maxRecDepth 65536 in
theorem w_c26 : (Jvm.Cond.code ({ cls := "com/example/decider/decider/logic/bdd/BddEvaluatePinLaw", name := "op", desc := "(IZZ)Z" } : Jvm.MethodName) method_5_code (3 : Nat) (Option.some Jvm.ClassFile.FieldType.boolean)).before args0 about1 = true := code_word (m := ⟨1, 4⟩) (meth := k1m4) (c := k1c4) (by decide +kernel) rfl rfl rfl (by decide +kernel)
set_option maxRecDepth 65536 in
theorem w_c27 : (Jvm.Cond.code ({ cls := "com/example/decider/decider/logic/bdd/Bdd", name := "evaluate", desc := "(I[Z)Z" } : Jvm.MethodName) prog_103_method_14_code (4 : Nat) (Option.some Jvm.ClassFile.FieldType.boolean)).before args0 about1 = true := code_word (m := ⟨2, 7⟩) (meth := k2m7) (c := k2c7) (by decide +kernel) rfl rfl rfl (by decide +kernel)
set_option maxRecDepth 65536 in
theorem w_c28 : (Jvm.Cond.code ({ cls := "com/example/decider/decider/logic/bdd/Bdd", name := "equivalent", desc := "(II)I" } : Jvm.MethodName) prog_103_method_8_code (3 : Nat) (Option.some Jvm.ClassFile.FieldType.int)).before args0 about1 = true := code_word (m := ⟨2, 6⟩) (meth := k2m6) (c := k2c6) (by decide +kernel) rfl rfl rfl (by decide +kernel)
set_option maxRecDepth 65536 in
theorem w_c29 : (Jvm.Cond.code ({ cls := "com/example/decider/decider/logic/bdd/Bdd", name := "not", desc := "(I)I" } : Jvm.MethodName) prog_103_method_4_code (2 : Nat) (Option.some Jvm.ClassFile.FieldType.int)).before args0 about1 = true := code_word (m := ⟨2, 2⟩) (meth := k2m2) (c := k2c2) (by decide +kernel) rfl rfl rfl (by decide +kernel)
set_option maxRecDepth 65536 in
theorem w_c30 : (Jvm.Cond.code ({ cls := "com/example/decider/decider/logic/bdd/Bdd", name := "andNot", desc := "(II)I" } : Jvm.MethodName) prog_103_method_7_code (3 : Nat) (Option.some Jvm.ClassFile.FieldType.int)).before args0 about1 = true := code_word (m := ⟨2, 5⟩) (meth := k2m5) (c := k2c5) (by decide +kernel) rfl rfl rfl (by decide +kernel)
def codes1 : List Jvm.Cond := [Jvm.Cond.code x code maxLocals ret, Jvm.Cond.code ({ cls := "com/example/decider/decider/logic/bdd/Bdd", name := "<init>", desc := "(IIJ)V" } : Jvm.MethodName) prog_103_method_2_code (6 : Nat) (Option.none : Option Jvm.ClassFile.FieldType), Jvm.Cond.code ({ cls := "java/lang/Object", name := "<init>", desc := "()V" } : Jvm.MethodName) object_method_1_code (1 : Nat) (Option.none : Option Jvm.ClassFile.FieldType), Jvm.Cond.code ({ cls := "java/lang/Math", name := "min", desc := "(II)I" } : Jvm.MethodName) jdk_29_method_69_code (2 : Nat) (Option.some Jvm.ClassFile.FieldType.int), Jvm.Cond.code ({ cls := "java/lang/Integer", name := "highestOneBit", desc := "(I)I" } : Jvm.MethodName) jdk_33_method_45_code (1 : Nat) (Option.some Jvm.ClassFile.FieldType.int), Jvm.Cond.code ({ cls := "java/lang/Integer", name := "numberOfLeadingZeros", desc := "(I)I" } : Jvm.MethodName) jdk_33_method_47_code (2 : Nat) (Option.some Jvm.ClassFile.FieldType.int), Jvm.Cond.code ({ cls := "java/util/Arrays", name := "fill", desc := "([II)V" } : Jvm.MethodName) jdk_65_method_103_code (4 : Nat) (Option.none : Option Jvm.ClassFile.FieldType), Jvm.Cond.code ({ cls := "com/example/decider/decider/logic/bdd/Bdd", name := "variable", desc := "(I)I" } : Jvm.MethodName) prog_103_method_3_code (2 : Nat) (Option.some Jvm.ClassFile.FieldType.int), Jvm.Cond.code ({ cls := "com/example/decider/decider/logic/bdd/Bdd", name := "checkVariable", desc := "(I)V" } : Jvm.MethodName) prog_103_method_17_code (2 : Nat) (Option.none : Option Jvm.ClassFile.FieldType), Jvm.Cond.code ({ cls := "com/example/decider/decider/logic/bdd/Bdd", name := "node", desc := "(III)I" } : Jvm.MethodName) prog_103_method_24_code (7 : Nat) (Option.some Jvm.ClassFile.FieldType.int), Jvm.Cond.code ({ cls := "com/example/decider/decider/logic/bdd/Bdd", name := "hash", desc := "(IIII)I" } : Jvm.MethodName) prog_103_method_31_code (5 : Nat) (Option.some Jvm.ClassFile.FieldType.int), Jvm.Cond.code ({ cls := "com/example/decider/decider/logic/bdd/Bdd", name := "capacity", desc := "()I" } : Jvm.MethodName) prog_103_method_25_code (1 : Nat) (Option.some Jvm.ClassFile.FieldType.int), Jvm.Cond.code ({ cls := "com/example/decider/decider/logic/bdd/BddEvaluatePinLaw", name := "combine", desc := "(Lcom/example/decider/decider/logic/bdd/Bdd;III)I" } : Jvm.MethodName) method_3_code (4 : Nat) (Option.some Jvm.ClassFile.FieldType.int), Jvm.Cond.code ({ cls := "com/example/decider/decider/logic/bdd/Bdd", name := "or", desc := "(II)I" } : Jvm.MethodName) prog_103_method_6_code (3 : Nat) (Option.some Jvm.ClassFile.FieldType.int), Jvm.Cond.code ({ cls := "com/example/decider/decider/logic/bdd/Bdd", name := "apply", desc := "(III)I" } : Jvm.MethodName) prog_103_method_19_code (9 : Nat) (Option.some Jvm.ClassFile.FieldType.int), Jvm.Cond.code ({ cls := "java/lang/Math", name := "max", desc := "(II)I" } : Jvm.MethodName) jdk_29_method_65_code (2 : Nat) (Option.some Jvm.ClassFile.FieldType.int), Jvm.Cond.code ({ cls := "com/example/decider/decider/logic/bdd/Bdd", name := "terminal", desc := "(III)I" } : Jvm.MethodName) prog_103_method_20_code (4 : Nat) (Option.some Jvm.ClassFile.FieldType.int), Jvm.Cond.code ({ cls := "com/example/decider/decider/logic/bdd/Bdd", name := "and", desc := "(II)I" } : Jvm.MethodName) prog_103_method_5_code (3 : Nat) (Option.some Jvm.ClassFile.FieldType.int), Jvm.Cond.code ({ cls := "com/example/decider/decider/logic/bdd/Bdd", name := "cached", desc := "(IIII)I" } : Jvm.MethodName) prog_103_method_27_code (7 : Nat) (Option.some Jvm.ClassFile.FieldType.int), Jvm.Cond.code ({ cls := "com/example/decider/decider/logic/bdd/Bdd", name := "entry", desc := "(IIII)I" } : Jvm.MethodName) prog_103_method_30_code (5 : Nat) (Option.some Jvm.ClassFile.FieldType.int), Jvm.Cond.code ({ cls := "com/example/decider/decider/logic/bdd/Bdd", name := "variableOf", desc := "(I)I" } : Jvm.MethodName) prog_103_method_21_code (2 : Nat) (Option.some Jvm.ClassFile.FieldType.int), Jvm.Cond.code ({ cls := "com/example/decider/decider/logic/bdd/Bdd", name := "cofactor", desc := "(IIZ)I" } : Jvm.MethodName) prog_103_method_18_code (5 : Nat) (Option.some Jvm.ClassFile.FieldType.int), Jvm.Cond.code ({ cls := "com/example/decider/decider/logic/bdd/Bdd", name := "low", desc := "(I)I" } : Jvm.MethodName) prog_103_method_22_code (2 : Nat) (Option.some Jvm.ClassFile.FieldType.int), Jvm.Cond.code ({ cls := "com/example/decider/decider/logic/bdd/Bdd", name := "high", desc := "(I)I" } : Jvm.MethodName) prog_103_method_23_code (2 : Nat) (Option.some Jvm.ClassFile.FieldType.int), Jvm.Cond.code ({ cls := "com/example/decider/decider/logic/bdd/Bdd", name := "store", desc := "(IIIII)V" } : Jvm.MethodName) prog_103_method_28_code (7 : Nat) (Option.none : Option Jvm.ClassFile.FieldType), Jvm.Cond.code ({ cls := "com/example/decider/decider/logic/bdd/BddEvaluatePinLaw", name := "value", desc := "(I[Z)Z" } : Jvm.MethodName) method_4_code (2 : Nat) (Option.some Jvm.ClassFile.FieldType.boolean), Jvm.Cond.code ({ cls := "com/example/decider/decider/logic/bdd/BddEvaluatePinLaw", name := "op", desc := "(IZZ)Z" } : Jvm.MethodName) method_5_code (3 : Nat) (Option.some Jvm.ClassFile.FieldType.boolean), Jvm.Cond.code ({ cls := "com/example/decider/decider/logic/bdd/Bdd", name := "evaluate", desc := "(I[Z)Z" } : Jvm.MethodName) prog_103_method_14_code (4 : Nat) (Option.some Jvm.ClassFile.FieldType.boolean), Jvm.Cond.code ({ cls := "com/example/decider/decider/logic/bdd/Bdd", name := "equivalent", desc := "(II)I" } : Jvm.MethodName) prog_103_method_8_code (3 : Nat) (Option.some Jvm.ClassFile.FieldType.int), Jvm.Cond.code ({ cls := "com/example/decider/decider/logic/bdd/Bdd", name := "not", desc := "(I)I" } : Jvm.MethodName) prog_103_method_4_code (2 : Nat) (Option.some Jvm.ClassFile.FieldType.int), Jvm.Cond.code ({ cls := "com/example/decider/decider/logic/bdd/Bdd", name := "andNot", desc := "(II)I" } : Jvm.MethodName) prog_103_method_7_code (3 : Nat) (Option.some Jvm.ClassFile.FieldType.int)]
set_option maxRecDepth 65536 in
theorem codes_eq : words1.filter isCode = codes1 := rfl
theorem w_codes : ∀ c ∈ words1.filter isCode, c.before args0 about1 = true := by
  rw [codes_eq]
  intro c hc
  simp only [codes1, List.mem_cons, List.not_mem_nil, or_false] at hc
  rcases hc with rfl | rfl | rfl | rfl | rfl | rfl | rfl | rfl | rfl | rfl | rfl | rfl | rfl | rfl | rfl | rfl | rfl | rfl | rfl | rfl | rfl | rfl | rfl | rfl | rfl | rfl | rfl | rfl | rfl | rfl | rfl
  · exact w_c0
  · exact w_c1
  · exact w_c2
  · exact w_c3
  · exact w_c4
  · exact w_c5
  · exact w_c6
  · exact w_c7
  · exact w_c8
  · exact w_c9
  · exact w_c10
  · exact w_c11
  · exact w_c12
  · exact w_c13
  · exact w_c14
  · exact w_c15
  · exact w_c16
  · exact w_c17
  · exact w_c18
  · exact w_c19
  · exact w_c20
  · exact w_c21
  · exact w_c22
  · exact w_c23
  · exact w_c24
  · exact w_c25
  · exact w_c26
  · exact w_c27
  · exact w_c28
  · exact w_c29
  · exact w_c30
set_option maxRecDepth 65536 in
theorem w_t1 : (words1.take 24).all (fun c => isCode c || c.before args0 about1) = true := by decide +kernel
set_option maxRecDepth 65536 in
theorem w_t2 : ((words1.drop 24).take 24).all (fun c => isCode c || c.before args0 about1) = true := by decide +kernel
set_option maxRecDepth 65536 in
theorem w_t3 : (((words1.drop 24).drop 24).take 24).all (fun c => isCode c || c.before args0 about1) = true := by decide +kernel
set_option maxRecDepth 65536 in
theorem w_t4 : ((((words1.drop 24).drop 24).drop 24).take 24).all (fun c => isCode c || c.before args0 about1) = true := by decide +kernel
set_option maxRecDepth 65536 in
theorem w_t5 : (((((words1.drop 24).drop 24).drop 24).drop 24).take 24).all (fun c => isCode c || c.before args0 about1) = true := by decide +kernel
set_option maxRecDepth 65536 in
theorem w_t6 : ((((((words1.drop 24).drop 24).drop 24).drop 24).drop 24).take 24).all (fun c => isCode c || c.before args0 about1) = true := by decide +kernel
set_option maxRecDepth 65536 in
theorem w_t7 : ((((((words1.drop 24).drop 24).drop 24).drop 24).drop 24).drop 24).all (fun c => isCode c || c.before args0 about1) = true := by decide +kernel
theorem w_tables : (allAtoms (Jvm.Cond.code x code maxLocals ret :: tables_1)).before args0 about1 = true := by
  rw [allAtoms_all]
  show words1.all (fun c => c.before args0 about1) = true
  refine all_split ?_ w_codes
  rw [← List.take_append_drop 24 words1, List.all_append, w_t1, ← List.take_append_drop 24 (words1.drop 24), List.all_append, w_t2, ← List.take_append_drop 24 ((words1.drop 24).drop 24), List.all_append, w_t3, ← List.take_append_drop 24 (((words1.drop 24).drop 24).drop 24), List.all_append, w_t4, ← List.take_append_drop 24 ((((words1.drop 24).drop 24).drop 24).drop 24), List.all_append, w_t5, ← List.take_append_drop 24 (((((words1.drop 24).drop 24).drop 24).drop 24).drop 24), List.all_append, w_t6, w_t7]
  rfl
set_option maxRecDepth 65536 in
theorem w_case : (Jvm.Cond.and given_1 narrow_1).before args0 about1 = true := by decide +kernel
theorem w_applies : (headSpec (Jvm.Cond.code x code maxLocals ret :: tables_1) room_1).applies x e0.platform about1 = true :=
  (Spec.applies_iff w_frames).mpr ⟨w_running, w_runnable, w_alone, w_named, w_hears, w_ripe, w_room, w_tables⟩
theorem atStart : AtStart classFile x code maxLocals ret World_1 tables_1 room_1 Calls_1 rest_1 Pre_1 launch0 p0 e0 about1 theMethod args0 below0 :=
  ⟨lists_1, trivial, launch0.admits_env _ _ _, launch0.least_env, fairChoices_fair.cas, fairChoices_fair.clock, w_frames, w_args, w_heap, w_applies, trivial, trivial, w_case⟩
end start1
theorem witness_1 : WitnessClaimed_1 := ⟨start1.p0, start1.e0, start1.about1, start1.theMethod, start1.args0, start1.below0, start1.atStart⟩
end Jvm.Pilot.@@N@@
