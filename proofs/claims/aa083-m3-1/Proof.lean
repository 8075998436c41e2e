import JvmDerived
import JvmDerived.Pilot.@@N@@Statement
import JvmDerived.Pilot.@@N@@Code
set_option linter.unusedVariables false
set_option linter.unusedSimpArgs false
namespace Jvm.Pilot.@@N@@
open Jvm Jvm.ClassFile Sem Op Lib Jvm.Free Jvm.Stand Jvm.LawKit Jvm.RoadKit Bundle Jvm.Pilot.@@N@@.Jvm.D
theorem own_go {tb : Tables} {e : Env} {below : List Frame} {A B : State} {P : State → Outcome → Prop} (h : ∀ t, Steps tb e below B t → Steps tb e below A t) (k : ∃ s₂ o, Steps tb e below B s₂ ∧ P s₂ o) : ∃ s₂ o, Steps tb e below A s₂ ∧ P s₂ o := by
  obtain ⟨s₂, o, h1, h2⟩ := k; exact ⟨s₂, o, h _ h1, h2⟩
theorem d6_0 : decode jdk_52_method_21_code 0 = .ok (.iconst 0, 1) := by decide +kernel
theorem d6_1 : decode jdk_52_method_21_code 1 = .ok (.istore 5, 2) := by decide +kernel
theorem d6_3 : decode jdk_52_method_21_code 3 = .ok (.iload 5, 2) := by decide +kernel
theorem d6_5 : decode jdk_52_method_21_code 5 = .ok (.iload 4, 2) := by decide +kernel
theorem d6_7 : decode jdk_52_method_21_code 7 = .ok (.if_icmp .ge 37, 3) := by decide +kernel
theorem d6_10 : decode jdk_52_method_21_code 10 = .ok (.aload_n 0, 1) := by decide +kernel
theorem d6_11 : decode jdk_52_method_21_code 11 = .ok (.iload_n 1, 1) := by decide +kernel
theorem d6_12 : decode jdk_52_method_21_code 12 = .ok (.caload, 1) := by decide +kernel
theorem d6_13 : decode jdk_52_method_21_code 13 = .ok (.istore 6, 2) := by decide +kernel
theorem d6_15 : decode jdk_52_method_21_code 15 = .ok (.iload 6, 2) := by decide +kernel
theorem d6_17 : decode jdk_52_method_21_code 17 = .ok (.sipush 255, 3) := by decide +kernel
theorem d6_20 : decode jdk_52_method_21_code 20 = .ok (.if_icmp .le 6, 3) := by decide +kernel
theorem d6_26 : decode jdk_52_method_21_code 26 = .ok (.aload_n 2, 1) := by decide +kernel
theorem d6_27 : decode jdk_52_method_21_code 27 = .ok (.iload_n 3, 1) := by decide +kernel
theorem d6_28 : decode jdk_52_method_21_code 28 = .ok (.iload 6, 2) := by decide +kernel
theorem d6_30 : decode jdk_52_method_21_code 30 = .ok (.i2b, 1) := by decide +kernel
theorem d6_31 : decode jdk_52_method_21_code 31 = .ok (.bastore, 1) := by decide +kernel
theorem d6_32 : decode jdk_52_method_21_code 32 = .ok (.iinc 1 1, 3) := by decide +kernel
theorem d6_35 : decode jdk_52_method_21_code 35 = .ok (.iinc 3 1, 3) := by decide +kernel
theorem d6_38 : decode jdk_52_method_21_code 38 = .ok (.iinc 5 1, 3) := by decide +kernel
theorem d6_41 : decode jdk_52_method_21_code 41 = .ok (.goto (-38), 3) := by decide +kernel
theorem d6_44 : decode jdk_52_method_21_code 44 = .ok (.iload 4, 2) := by decide +kernel
theorem d6_46 : decode jdk_52_method_21_code 46 = .ok (.ireturn, 1) := by decide +kernel
theorem pn_0 : plainName "java/lang/StringUTF16" = true := by first | (simp [plainName, overriddenIn]; done) | decide +kernel
theorem d5_0 : decode jdk_52_method_16_code 0 = .ok (.iload_n 2, 1) := by decide +kernel
theorem d5_1 : decode jdk_52_method_16_code 1 = .ok (.newarray .byte, 2) := by decide +kernel
theorem d5_3 : decode jdk_52_method_16_code 3 = .ok (.astore_n 3, 1) := by decide +kernel
theorem d5_4 : decode jdk_52_method_16_code 4 = .ok (.aload_n 0, 1) := by decide +kernel
theorem d5_5 : decode jdk_52_method_16_code 5 = .ok (.iload_n 1, 1) := by decide +kernel
theorem d5_6 : decode jdk_52_method_16_code 6 = .ok (.aload_n 3, 1) := by decide +kernel
theorem d5_7 : decode jdk_52_method_16_code 7 = .ok (.iconst 0, 1) := by decide +kernel
theorem d5_8 : decode jdk_52_method_16_code 8 = .ok (.iload_n 2, 1) := by decide +kernel
theorem d5_9 : decode jdk_52_method_16_code 9 = .ok (.invokestatic 115, 3) := by decide +kernel
theorem pd_0 : parseMethodDescriptor "([CI[BII)I" = some ⟨[(.array .char), .int, (.array .byte), .int, .int], some .int⟩ := by decide +kernel
theorem d5_12 : decode jdk_52_method_16_code 12 = .ok (.istore 4, 2) := by decide +kernel
theorem d5_14 : decode jdk_52_method_16_code 14 = .ok (.iload 4, 2) := by decide +kernel
theorem d5_16 : decode jdk_52_method_16_code 16 = .ok (.iload_n 2, 1) := by decide +kernel
theorem d5_17 : decode jdk_52_method_16_code 17 = .ok (.if_icmp .eq 40, 3) := by decide +kernel
theorem d5_57 : decode jdk_52_method_16_code 57 = .ok (.aload_n 3, 1) := by decide +kernel
theorem d5_58 : decode jdk_52_method_16_code 58 = .ok (.areturn, 1) := by decide +kernel
theorem d7_0 : decode jdk_52_method_15_code 0 = .ok (.iload_n 1, 1) := by decide +kernel
theorem d7_1 : decode jdk_52_method_15_code 1 = .ok (.aload_n 0, 1) := by decide +kernel
theorem d7_2 : decode jdk_52_method_15_code 2 = .ok (.arraylength, 1) := by decide +kernel
theorem d7_3 : decode jdk_52_method_15_code 3 = .ok (.isub, 1) := by decide +kernel
theorem d7_4 : decode jdk_52_method_15_code 4 = .ok (.bipush 31, 2) := by decide +kernel
theorem d7_6 : decode jdk_52_method_15_code 6 = .ok (.iushr, 1) := by decide +kernel
theorem d7_7 : decode jdk_52_method_15_code 7 = .ok (.i2b, 1) := by decide +kernel
theorem d7_8 : decode jdk_52_method_15_code 8 = .ok (.ireturn, 1) := by decide +kernel
theorem d3_0 : decode jdk_42_method_149_code 0 = .ok (.aload_n 0, 1) := by decide +kernel
theorem d3_1 : decode jdk_42_method_149_code 1 = .ok (.invokespecial 1, 3) := by decide +kernel
theorem d3_4 : decode jdk_42_method_149_code 4 = .ok (.iload_n 3, 1) := by decide +kernel
theorem d3_5 : decode jdk_42_method_149_code 5 = .ok (.ifCond .ne 22, 3) := by decide +kernel
theorem d3_27 : decode jdk_42_method_149_code 27 = .ok (.getstatic 38, 3) := by decide +kernel
theorem d3_30 : decode jdk_42_method_149_code 30 = .ok (.ifCond .eq 28, 3) := by decide +kernel
theorem d3_33 : decode jdk_42_method_149_code 33 = .ok (.aload_n 1, 1) := by decide +kernel
theorem d3_34 : decode jdk_42_method_149_code 34 = .ok (.iload_n 2, 1) := by decide +kernel
theorem d3_35 : decode jdk_42_method_149_code 35 = .ok (.iload_n 3, 1) := by decide +kernel
theorem d3_36 : decode jdk_42_method_149_code 36 = .ok (.invokestatic 177, 3) := by decide +kernel
theorem pd_1 : parseMethodDescriptor "([CII)[B" = some ⟨[(.array .char), .int, .int], some (.array .byte)⟩ := by decide +kernel
theorem d3_39 : decode jdk_42_method_149_code 39 = .ok (.astore 5, 2) := by decide +kernel
theorem d3_41 : decode jdk_42_method_149_code 41 = .ok (.aload_n 0, 1) := by decide +kernel
theorem d3_42 : decode jdk_42_method_149_code 42 = .ok (.aload 5, 2) := by decide +kernel
theorem d3_44 : decode jdk_42_method_149_code 44 = .ok (.iload_n 3, 1) := by decide +kernel
theorem d3_45 : decode jdk_42_method_149_code 45 = .ok (.invokestatic 47, 3) := by decide +kernel
theorem pd_2 : parseMethodDescriptor "([BI)B" = some ⟨[(.array .byte), .int], some .byte⟩ := by decide +kernel
theorem d3_48 : decode jdk_42_method_149_code 48 = .ok (.putfield 15, 3) := by decide +kernel
theorem d3_51 : decode jdk_42_method_149_code 51 = .ok (.aload_n 0, 1) := by decide +kernel
theorem d3_52 : decode jdk_42_method_149_code 52 = .ok (.aload 5, 2) := by decide +kernel
theorem d3_54 : decode jdk_42_method_149_code 54 = .ok (.putfield 9, 3) := by decide +kernel
theorem d3_57 : decode jdk_42_method_149_code 57 = .ok (.return_, 1) := by decide +kernel
theorem pn_1 : plainName "java/lang/String" = true := by first | (simp [plainName, overriddenIn]; done) | decide +kernel
theorem d2_0 : decode jdk_42_method_3_code 0 = .ok (.aload_n 0, 1) := by decide +kernel
theorem d2_1 : decode jdk_42_method_3_code 1 = .ok (.aload_n 1, 1) := by decide +kernel
theorem d2_2 : decode jdk_42_method_3_code 2 = .ok (.iconst 0, 1) := by decide +kernel
theorem d2_3 : decode jdk_42_method_3_code 3 = .ok (.aload_n 1, 1) := by decide +kernel
theorem d2_4 : decode jdk_42_method_3_code 4 = .ok (.arraylength, 1) := by decide +kernel
theorem d2_5 : decode jdk_42_method_3_code 5 = .ok (.aconst_null, 1) := by decide +kernel
theorem d2_6 : decode jdk_42_method_3_code 6 = .ok (.invokespecial 27, 3) := by decide +kernel
theorem pd_3 : parseMethodDescriptor "([CIILjava/lang/Void;)V" = some ⟨[(.array .char), .int, .int, (.object "java/lang/Void")], none⟩ := by decide +kernel
theorem d2_9 : decode jdk_42_method_3_code 9 = .ok (.return_, 1) := by decide +kernel
theorem d3_8 : decode jdk_42_method_149_code 8 = .ok (.aload_n 0, 1) := by decide +kernel
theorem d3_9 : decode jdk_42_method_149_code 9 = .ok (.ldc 7, 2) := by decide +kernel
theorem d3_11 : decode jdk_42_method_149_code 11 = .ok (.getfield 9, 3) := by decide +kernel
theorem d3_14 : decode jdk_42_method_149_code 14 = .ok (.putfield 9, 3) := by decide +kernel
theorem d3_17 : decode jdk_42_method_149_code 17 = .ok (.aload_n 0, 1) := by decide +kernel
theorem d3_18 : decode jdk_42_method_149_code 18 = .ok (.ldc 7, 2) := by decide +kernel
theorem d3_20 : decode jdk_42_method_149_code 20 = .ok (.getfield 15, 3) := by decide +kernel
theorem d3_23 : decode jdk_42_method_149_code 23 = .ok (.putfield 15, 3) := by decide +kernel
theorem d3_26 : decode jdk_42_method_149_code 26 = .ok (.return_, 1) := by decide +kernel
theorem d1_0 : decode method_2_code 0 = .ok (.iload_n 0, 1) := by decide +kernel
theorem d1_1 : decode method_2_code 1 = .ok (.iconst 1, 1) := by decide +kernel
theorem d1_2 : decode method_2_code 2 = .ok (.iand, 1) := by decide +kernel
theorem d1_3 : decode method_2_code 3 = .ok (.ifCond .eq 6, 3) := by decide +kernel
theorem d1_9 : decode method_2_code 9 = .ok (.iload_n 0, 1) := by decide +kernel
theorem d1_10 : decode method_2_code 10 = .ok (.iconst 1, 1) := by decide +kernel
theorem d1_11 : decode method_2_code 11 = .ok (.iushr, 1) := by decide +kernel
theorem d1_12 : decode method_2_code 12 = .ok (.iconst 3, 1) := by decide +kernel
theorem d1_13 : decode method_2_code 13 = .ok (.iand, 1) := by decide +kernel
theorem d1_14 : decode method_2_code 14 = .ok (.istore_n 1, 1) := by decide +kernel
theorem d1_15 : decode method_2_code 15 = .ok (.iload_n 0, 1) := by decide +kernel
theorem d1_16 : decode method_2_code 16 = .ok (.iconst 3, 1) := by decide +kernel
theorem d1_17 : decode method_2_code 17 = .ok (.iushr, 1) := by decide +kernel
theorem d1_18 : decode method_2_code 18 = .ok (.sipush 255, 3) := by decide +kernel
theorem d1_21 : decode method_2_code 21 = .ok (.iand, 1) := by decide +kernel
theorem d1_22 : decode method_2_code 22 = .ok (.i2c, 1) := by decide +kernel
theorem d1_23 : decode method_2_code 23 = .ok (.istore_n 2, 1) := by decide +kernel
theorem d1_24 : decode method_2_code 24 = .ok (.iload_n 0, 1) := by decide +kernel
theorem d1_25 : decode method_2_code 25 = .ok (.bipush 11, 2) := by decide +kernel
theorem d1_27 : decode method_2_code 27 = .ok (.iushr, 1) := by decide +kernel
theorem d1_28 : decode method_2_code 28 = .ok (.sipush 255, 3) := by decide +kernel
theorem d1_31 : decode method_2_code 31 = .ok (.iand, 1) := by decide +kernel
theorem d1_32 : decode method_2_code 32 = .ok (.i2c, 1) := by decide +kernel
theorem d1_33 : decode method_2_code 33 = .ok (.istore_n 3, 1) := by decide +kernel
theorem d1_34 : decode method_2_code 34 = .ok (.iload_n 0, 1) := by decide +kernel
theorem d1_35 : decode method_2_code 35 = .ok (.bipush 19, 2) := by decide +kernel
theorem d1_37 : decode method_2_code 37 = .ok (.iushr, 1) := by decide +kernel
theorem d1_38 : decode method_2_code 38 = .ok (.sipush 255, 3) := by decide +kernel
theorem d1_41 : decode method_2_code 41 = .ok (.iand, 1) := by decide +kernel
theorem d1_42 : decode method_2_code 42 = .ok (.i2c, 1) := by decide +kernel
theorem d1_43 : decode method_2_code 43 = .ok (.istore 4, 2) := by decide +kernel
theorem d1_45 : decode method_2_code 45 = .ok (.iload_n 1, 1) := by decide +kernel
theorem d1_46 : decode method_2_code 46 = .ok (.ifCond .ne 14, 3) := by decide +kernel
theorem d1_49 : decode method_2_code 49 = .ok (.new 9, 3) := by decide +kernel
theorem d1_52 : decode method_2_code 52 = .ok (.dup, 1) := by decide +kernel
theorem d1_53 : decode method_2_code 53 = .ok (.iconst 0, 1) := by decide +kernel
theorem d1_54 : decode method_2_code 54 = .ok (.newarray .char, 2) := by decide +kernel
theorem d1_56 : decode method_2_code 56 = .ok (.invokespecial 11, 3) := by decide +kernel
theorem pd_4 : parseMethodDescriptor "([C)V" = some ⟨[(.array .char)], none⟩ := by decide +kernel
theorem d1_59 : decode method_2_code 59 = .ok (.areturn, 1) := by decide +kernel
theorem d1_60 : decode method_2_code 60 = .ok (.iload_n 1, 1) := by decide +kernel
theorem d1_61 : decode method_2_code 61 = .ok (.iconst 1, 1) := by decide +kernel
theorem d1_62 : decode method_2_code 62 = .ok (.if_icmp .ne 18, 3) := by decide +kernel
theorem d1_65 : decode method_2_code 65 = .ok (.new 9, 3) := by decide +kernel
theorem d1_68 : decode method_2_code 68 = .ok (.dup, 1) := by decide +kernel
theorem d1_69 : decode method_2_code 69 = .ok (.iconst 1, 1) := by decide +kernel
theorem d1_70 : decode method_2_code 70 = .ok (.newarray .char, 2) := by decide +kernel
theorem d1_72 : decode method_2_code 72 = .ok (.dup, 1) := by decide +kernel
theorem d1_73 : decode method_2_code 73 = .ok (.iconst 0, 1) := by decide +kernel
theorem d1_74 : decode method_2_code 74 = .ok (.iload_n 2, 1) := by decide +kernel
theorem d1_75 : decode method_2_code 75 = .ok (.castore, 1) := by decide +kernel
theorem d1_76 : decode method_2_code 76 = .ok (.invokespecial 11, 3) := by decide +kernel
theorem d1_79 : decode method_2_code 79 = .ok (.areturn, 1) := by decide +kernel
theorem d1_80 : decode method_2_code 80 = .ok (.iload_n 1, 1) := by decide +kernel
theorem d1_81 : decode method_2_code 81 = .ok (.iconst 2, 1) := by decide +kernel
theorem d1_82 : decode method_2_code 82 = .ok (.if_icmp .ne 22, 3) := by decide +kernel
theorem d1_85 : decode method_2_code 85 = .ok (.new 9, 3) := by decide +kernel
theorem d1_88 : decode method_2_code 88 = .ok (.dup, 1) := by decide +kernel
theorem d1_89 : decode method_2_code 89 = .ok (.iconst 2, 1) := by decide +kernel
theorem d1_90 : decode method_2_code 90 = .ok (.newarray .char, 2) := by decide +kernel
theorem d1_92 : decode method_2_code 92 = .ok (.dup, 1) := by decide +kernel
theorem d1_93 : decode method_2_code 93 = .ok (.iconst 0, 1) := by decide +kernel
theorem d1_94 : decode method_2_code 94 = .ok (.iload_n 2, 1) := by decide +kernel
theorem d1_95 : decode method_2_code 95 = .ok (.castore, 1) := by decide +kernel
theorem d1_96 : decode method_2_code 96 = .ok (.dup, 1) := by decide +kernel
theorem d1_97 : decode method_2_code 97 = .ok (.iconst 1, 1) := by decide +kernel
theorem d1_98 : decode method_2_code 98 = .ok (.iload_n 3, 1) := by decide +kernel
theorem d1_99 : decode method_2_code 99 = .ok (.castore, 1) := by decide +kernel
theorem d1_100 : decode method_2_code 100 = .ok (.invokespecial 11, 3) := by decide +kernel
theorem d1_103 : decode method_2_code 103 = .ok (.areturn, 1) := by decide +kernel
theorem d1_104 : decode method_2_code 104 = .ok (.new 9, 3) := by decide +kernel
theorem d1_107 : decode method_2_code 107 = .ok (.dup, 1) := by decide +kernel
theorem d1_108 : decode method_2_code 108 = .ok (.iconst 3, 1) := by decide +kernel
theorem d1_109 : decode method_2_code 109 = .ok (.newarray .char, 2) := by decide +kernel
theorem d1_111 : decode method_2_code 111 = .ok (.dup, 1) := by decide +kernel
theorem d1_112 : decode method_2_code 112 = .ok (.iconst 0, 1) := by decide +kernel
theorem d1_113 : decode method_2_code 113 = .ok (.iload_n 2, 1) := by decide +kernel
theorem d1_114 : decode method_2_code 114 = .ok (.castore, 1) := by decide +kernel
theorem d1_115 : decode method_2_code 115 = .ok (.dup, 1) := by decide +kernel
theorem d1_116 : decode method_2_code 116 = .ok (.iconst 1, 1) := by decide +kernel
theorem d1_117 : decode method_2_code 117 = .ok (.iload_n 3, 1) := by decide +kernel
theorem d1_118 : decode method_2_code 118 = .ok (.castore, 1) := by decide +kernel
theorem d1_119 : decode method_2_code 119 = .ok (.dup, 1) := by decide +kernel
theorem d1_120 : decode method_2_code 120 = .ok (.iconst 2, 1) := by decide +kernel
theorem d1_121 : decode method_2_code 121 = .ok (.iload 4, 2) := by decide +kernel
theorem d1_123 : decode method_2_code 123 = .ok (.castore, 1) := by decide +kernel
theorem d1_124 : decode method_2_code 124 = .ok (.invokespecial 11, 3) := by decide +kernel
theorem d1_127 : decode method_2_code 127 = .ok (.areturn, 1) := by decide +kernel
theorem d1_6 : decode method_2_code 6 = .ok (.ldc 7, 2) := by decide +kernel
theorem d1_8 : decode method_2_code 8 = .ok (.areturn, 1) := by decide +kernel
theorem pn_2 : plainName "com/example/axiomwright/axiomwright/cli/TimingsNonePinLaw" = true := by first | (simp [plainName, overriddenIn]; done) | decide +kernel
theorem d20_0 : decode jdk_29_method_65_code 0 = .ok (.iload_n 0, 1) := by decide +kernel
theorem d20_1 : decode jdk_29_method_65_code 1 = .ok (.iload_n 1, 1) := by decide +kernel
theorem d20_2 : decode jdk_29_method_65_code 2 = .ok (.if_icmp .lt 7, 3) := by decide +kernel
theorem d20_5 : decode jdk_29_method_65_code 5 = .ok (.iload_n 0, 1) := by decide +kernel
theorem d20_6 : decode jdk_29_method_65_code 6 = .ok (.goto 4, 3) := by decide +kernel
theorem d20_10 : decode jdk_29_method_65_code 10 = .ok (.ireturn, 1) := by decide +kernel
theorem d10_0 : decode jdk_22_method_1_code 0 = .ok (.aload_n 0, 1) := by decide +kernel
theorem d10_1 : decode jdk_22_method_1_code 1 = .ok (.invokespecial 1, 3) := by decide +kernel
theorem d10_4 : decode jdk_22_method_1_code 4 = .ok (.return_, 1) := by decide +kernel
theorem pn_3 : plainName "java/util/AbstractCollection" = true := by first | (simp [plainName, overriddenIn]; done) | decide +kernel
theorem d9_0 : decode jdk_39_method_1_code 0 = .ok (.aload_n 0, 1) := by decide +kernel
theorem d9_1 : decode jdk_39_method_1_code 1 = .ok (.invokespecial 1, 3) := by decide +kernel
theorem pd_5 : parseMethodDescriptor "()V" = some ⟨[], none⟩ := by decide +kernel
theorem d9_4 : decode jdk_39_method_1_code 4 = .ok (.aload_n 0, 1) := by decide +kernel
theorem d9_5 : decode jdk_39_method_1_code 5 = .ok (.iconst 0, 1) := by decide +kernel
theorem d9_6 : decode jdk_39_method_1_code 6 = .ok (.putfield 7, 3) := by decide +kernel
theorem d9_9 : decode jdk_39_method_1_code 9 = .ok (.return_, 1) := by decide +kernel
theorem pn_4 : plainName "java/util/AbstractList" = true := by first | (simp [plainName, overriddenIn]; done) | decide +kernel
theorem d8_0 : decode jdk_38_method_2_code 0 = .ok (.aload_n 0, 1) := by decide +kernel
theorem d8_1 : decode jdk_38_method_2_code 1 = .ok (.invokespecial 1, 3) := by decide +kernel
theorem d8_4 : decode jdk_38_method_2_code 4 = .ok (.aload_n 0, 1) := by decide +kernel
theorem d8_5 : decode jdk_38_method_2_code 5 = .ok (.getstatic 39, 3) := by decide +kernel
theorem d8_8 : decode jdk_38_method_2_code 8 = .ok (.putfield 9, 3) := by decide +kernel
theorem d8_11 : decode jdk_38_method_2_code 11 = .ok (.return_, 1) := by decide +kernel
theorem pn_5 : plainName "java/util/ArrayList" = true := by first | (simp [plainName, overriddenIn]; done) | decide +kernel
theorem d19_0 : decode jdk_38_method_6_code 0 = .ok (.aload_n 0, 1) := by decide +kernel
theorem d19_1 : decode jdk_38_method_6_code 1 = .ok (.getfield 9, 3) := by decide +kernel
theorem d19_4 : decode jdk_38_method_6_code 4 = .ok (.arraylength, 1) := by decide +kernel
theorem d19_5 : decode jdk_38_method_6_code 5 = .ok (.istore_n 2, 1) := by decide +kernel
theorem d19_6 : decode jdk_38_method_6_code 6 = .ok (.iload_n 2, 1) := by decide +kernel
theorem d19_7 : decode jdk_38_method_6_code 7 = .ok (.ifCond .gt 13, 3) := by decide +kernel
theorem d19_10 : decode jdk_38_method_6_code 10 = .ok (.aload_n 0, 1) := by decide +kernel
theorem d19_11 : decode jdk_38_method_6_code 11 = .ok (.getfield 9, 3) := by decide +kernel
theorem d19_14 : decode jdk_38_method_6_code 14 = .ok (.getstatic 39, 3) := by decide +kernel
theorem d19_17 : decode jdk_38_method_6_code 17 = .ok (.if_acmp .eq 28, 3) := by decide +kernel
theorem d19_45 : decode jdk_38_method_6_code 45 = .ok (.aload_n 0, 1) := by decide +kernel
theorem d19_46 : decode jdk_38_method_6_code 46 = .ok (.bipush 10, 2) := by decide +kernel
theorem d19_48 : decode jdk_38_method_6_code 48 = .ok (.iload_n 1, 1) := by decide +kernel
theorem d19_49 : decode jdk_38_method_6_code 49 = .ok (.invokestatic 79, 3) := by decide +kernel
theorem pd_6 : parseMethodDescriptor "(II)I" = some ⟨[.int, .int], some .int⟩ := by decide +kernel
theorem d19_52 : decode jdk_38_method_6_code 52 = .ok (.anewarray 7, 3) := by decide +kernel
theorem d19_55 : decode jdk_38_method_6_code 55 = .ok (.dup_x1, 1) := by decide +kernel
theorem d19_56 : decode jdk_38_method_6_code 56 = .ok (.putfield 9, 3) := by decide +kernel
theorem d19_59 : decode jdk_38_method_6_code 59 = .ok (.areturn, 1) := by decide +kernel
theorem d18_0 : decode jdk_38_method_7_code 0 = .ok (.aload_n 0, 1) := by decide +kernel
theorem d18_1 : decode jdk_38_method_7_code 1 = .ok (.aload_n 0, 1) := by decide +kernel
theorem d18_2 : decode jdk_38_method_7_code 2 = .ok (.getfield 48, 3) := by decide +kernel
theorem d18_5 : decode jdk_38_method_7_code 5 = .ok (.iconst 1, 1) := by decide +kernel
theorem d18_6 : decode jdk_38_method_7_code 6 = .ok (.iadd, 1) := by decide +kernel
theorem d18_7 : decode jdk_38_method_7_code 7 = .ok (.invokevirtual 69, 3) := by decide +kernel
theorem pd_7 : parseMethodDescriptor "(I)[Ljava/lang/Object;" = some ⟨[.int], some (.array (.object "java/lang/Object"))⟩ := by decide +kernel
theorem d18_10 : decode jdk_38_method_7_code 10 = .ok (.areturn, 1) := by decide +kernel
theorem d17_0 : decode jdk_38_method_24_code 0 = .ok (.iload_n 3, 1) := by decide +kernel
theorem d17_1 : decode jdk_38_method_24_code 1 = .ok (.aload_n 2, 1) := by decide +kernel
theorem d17_2 : decode jdk_38_method_24_code 2 = .ok (.arraylength, 1) := by decide +kernel
theorem d17_3 : decode jdk_38_method_24_code 3 = .ok (.if_icmp .ne 8, 3) := by decide +kernel
theorem d17_6 : decode jdk_38_method_24_code 6 = .ok (.aload_n 0, 1) := by decide +kernel
theorem d17_7 : decode jdk_38_method_24_code 7 = .ok (.invokevirtual 129, 3) := by decide +kernel
theorem pd_8 : parseMethodDescriptor "()[Ljava/lang/Object;" = some ⟨[], some (.array (.object "java/lang/Object"))⟩ := by decide +kernel
theorem d17_10 : decode jdk_38_method_24_code 10 = .ok (.astore_n 2, 1) := by decide +kernel
theorem d17_11 : decode jdk_38_method_24_code 11 = .ok (.aload_n 2, 1) := by decide +kernel
theorem d17_12 : decode jdk_38_method_24_code 12 = .ok (.iload_n 3, 1) := by decide +kernel
theorem d17_13 : decode jdk_38_method_24_code 13 = .ok (.aload_n 1, 1) := by decide +kernel
theorem d17_14 : decode jdk_38_method_24_code 14 = .ok (.aastore, 1) := by decide +kernel
theorem d17_15 : decode jdk_38_method_24_code 15 = .ok (.aload_n 0, 1) := by decide +kernel
theorem d17_16 : decode jdk_38_method_24_code 16 = .ok (.iload_n 3, 1) := by decide +kernel
theorem d17_17 : decode jdk_38_method_24_code 17 = .ok (.iconst 1, 1) := by decide +kernel
theorem d17_18 : decode jdk_38_method_24_code 18 = .ok (.iadd, 1) := by decide +kernel
theorem d17_19 : decode jdk_38_method_24_code 19 = .ok (.putfield 48, 3) := by decide +kernel
theorem d17_22 : decode jdk_38_method_24_code 22 = .ok (.return_, 1) := by decide +kernel
theorem d16_0 : decode jdk_38_method_25_code 0 = .ok (.aload_n 0, 1) := by decide +kernel
theorem d16_1 : decode jdk_38_method_25_code 1 = .ok (.dup, 1) := by decide +kernel
theorem d16_2 : decode jdk_38_method_25_code 2 = .ok (.getfield 63, 3) := by decide +kernel
theorem d16_5 : decode jdk_38_method_25_code 5 = .ok (.iconst 1, 1) := by decide +kernel
theorem d16_6 : decode jdk_38_method_25_code 6 = .ok (.iadd, 1) := by decide +kernel
theorem d16_7 : decode jdk_38_method_25_code 7 = .ok (.putfield 63, 3) := by decide +kernel
theorem d16_10 : decode jdk_38_method_25_code 10 = .ok (.aload_n 0, 1) := by decide +kernel
theorem d16_11 : decode jdk_38_method_25_code 11 = .ok (.aload_n 1, 1) := by decide +kernel
theorem d16_12 : decode jdk_38_method_25_code 12 = .ok (.aload_n 0, 1) := by decide +kernel
theorem d16_13 : decode jdk_38_method_25_code 13 = .ok (.getfield 9, 3) := by decide +kernel
theorem d16_16 : decode jdk_38_method_25_code 16 = .ok (.aload_n 0, 1) := by decide +kernel
theorem d16_17 : decode jdk_38_method_25_code 17 = .ok (.getfield 48, 3) := by decide +kernel
theorem d16_20 : decode jdk_38_method_25_code 20 = .ok (.invokevirtual 131, 3) := by decide +kernel
theorem pd_9 : parseMethodDescriptor "(Ljava/lang/Object;[Ljava/lang/Object;I)V" = some ⟨[(.object "java/lang/Object"), (.array (.object "java/lang/Object")), .int], none⟩ := by decide +kernel
theorem d16_23 : decode jdk_38_method_25_code 23 = .ok (.iconst 1, 1) := by decide +kernel
theorem d16_24 : decode jdk_38_method_25_code 24 = .ok (.ireturn, 1) := by decide +kernel
theorem d15_0 : decode jdk_38_method_8_code 0 = .ok (.aload_n 0, 1) := by decide +kernel
theorem d15_1 : decode jdk_38_method_8_code 1 = .ok (.getfield 48, 3) := by decide +kernel
theorem d15_4 : decode jdk_38_method_8_code 4 = .ok (.ireturn, 1) := by decide +kernel
theorem d23_0 : decode jdk_41_method_11_code 0 = .ok (.iload_n 0, 1) := by decide +kernel
theorem d23_1 : decode jdk_41_method_11_code 1 = .ok (.ifCond .lt 8, 3) := by decide +kernel
theorem d23_4 : decode jdk_41_method_11_code 4 = .ok (.iload_n 0, 1) := by decide +kernel
theorem d23_5 : decode jdk_41_method_11_code 5 = .ok (.iload_n 1, 1) := by decide +kernel
theorem d23_6 : decode jdk_41_method_11_code 6 = .ok (.if_icmp .lt 10, 3) := by decide +kernel
theorem d23_16 : decode jdk_41_method_11_code 16 = .ok (.iload_n 0, 1) := by decide +kernel
theorem d23_17 : decode jdk_41_method_11_code 17 = .ok (.ireturn, 1) := by decide +kernel
theorem pn_6 : plainName "jdk/internal/util/Preconditions" = true := by first | (simp [plainName, overriddenIn]; done) | decide +kernel
theorem d22_0 : decode jdk_31_method_17_code 0 = .ok (.iload_n 0, 1) := by decide +kernel
theorem d22_1 : decode jdk_31_method_17_code 1 = .ok (.iload_n 1, 1) := by decide +kernel
theorem d22_2 : decode jdk_31_method_17_code 2 = .ok (.aconst_null, 1) := by decide +kernel
theorem d22_3 : decode jdk_31_method_17_code 3 = .ok (.invokestatic 105, 3) := by decide +kernel
theorem pd_10 : parseMethodDescriptor "(IILjava/util/function/BiFunction;)I" = some ⟨[.int, .int, (.object "java/util/function/BiFunction")], some .int⟩ := by decide +kernel
theorem d22_6 : decode jdk_31_method_17_code 6 = .ok (.ireturn, 1) := by decide +kernel
theorem pn_7 : plainName "java/util/Objects" = true := by first | (simp [plainName, overriddenIn]; done) | decide +kernel
theorem d24_0 : decode jdk_38_method_18_code 0 = .ok (.aload_n 0, 1) := by decide +kernel
theorem d24_1 : decode jdk_38_method_18_code 1 = .ok (.getfield 9, 3) := by decide +kernel
theorem d24_4 : decode jdk_38_method_18_code 4 = .ok (.iload_n 1, 1) := by decide +kernel
theorem d24_5 : decode jdk_38_method_18_code 5 = .ok (.aaload, 1) := by decide +kernel
theorem d24_6 : decode jdk_38_method_18_code 6 = .ok (.areturn, 1) := by decide +kernel
theorem d21_0 : decode jdk_38_method_20_code 0 = .ok (.iload_n 1, 1) := by decide +kernel
theorem d21_1 : decode jdk_38_method_20_code 1 = .ok (.aload_n 0, 1) := by decide +kernel
theorem d21_2 : decode jdk_38_method_20_code 2 = .ok (.getfield 48, 3) := by decide +kernel
theorem d21_5 : decode jdk_38_method_20_code 5 = .ok (.invokestatic 118, 3) := by decide +kernel
theorem d21_8 : decode jdk_38_method_20_code 8 = .ok (.pop, 1) := by decide +kernel
theorem d21_9 : decode jdk_38_method_20_code 9 = .ok (.aload_n 0, 1) := by decide +kernel
theorem d21_10 : decode jdk_38_method_20_code 10 = .ok (.iload_n 1, 1) := by decide +kernel
theorem d21_11 : decode jdk_38_method_20_code 11 = .ok (.invokevirtual 123, 3) := by decide +kernel
theorem pd_11 : parseMethodDescriptor "(I)Ljava/lang/Object;" = some ⟨[.int], some (.object "java/lang/Object")⟩ := by decide +kernel
theorem d21_14 : decode jdk_38_method_20_code 14 = .ok (.areturn, 1) := by decide +kernel
theorem d12_0 : decode jdk_32_method_1_code 0 = .ok (.getstatic 1, 3) := by decide +kernel
theorem d12_3 : decode jdk_32_method_1_code 3 = .ok (.astore_n 0, 1) := by decide +kernel
theorem d12_4 : decode jdk_32_method_1_code 4 = .ok (.aload_n 0, 1) := by decide +kernel
theorem d12_5 : decode jdk_32_method_1_code 5 = .ok (.areturn, 1) := by decide +kernel
theorem pn_8 : plainName "java/util/Optional" = true := by first | (simp [plainName, overriddenIn]; done) | decide +kernel
theorem d13_0 : decode prog_13_method_1_code 0 = .ok (.aload_n 0, 1) := by decide +kernel
theorem d13_1 : decode prog_13_method_1_code 1 = .ok (.invokespecial 1, 3) := by decide +kernel
theorem d13_4 : decode prog_13_method_1_code 4 = .ok (.aload_n 0, 1) := by decide +kernel
theorem d13_5 : decode prog_13_method_1_code 5 = .ok (.aload_n 1, 1) := by decide +kernel
theorem d13_6 : decode prog_13_method_1_code 6 = .ok (.putfield 7, 3) := by decide +kernel
theorem d13_9 : decode prog_13_method_1_code 9 = .ok (.aload_n 0, 1) := by decide +kernel
theorem d13_10 : decode prog_13_method_1_code 10 = .ok (.aload_n 2, 1) := by decide +kernel
theorem d13_11 : decode prog_13_method_1_code 11 = .ok (.putfield 13, 3) := by decide +kernel
theorem d13_14 : decode prog_13_method_1_code 14 = .ok (.return_, 1) := by decide +kernel
theorem pn_9 : plainName "com/example/axiomwright/axiomwright/cli/Timings" = true := by first | (simp [plainName, overriddenIn]; done) | decide +kernel
theorem d11_0 : decode prog_13_method_2_code 0 = .ok (.new 8, 3) := by decide +kernel
theorem d11_3 : decode prog_13_method_2_code 3 = .ok (.dup, 1) := by decide +kernel
theorem d11_4 : decode prog_13_method_2_code 4 = .ok (.aload_n 0, 1) := by decide +kernel
theorem d11_5 : decode prog_13_method_2_code 5 = .ok (.invokestatic 17, 3) := by decide +kernel
theorem pd_12 : parseMethodDescriptor "()Ljava/util/Optional;" = some ⟨[], some (.object "java/util/Optional")⟩ := by decide +kernel
theorem d11_8 : decode prog_13_method_2_code 8 = .ok (.invokespecial 23, 3) := by decide +kernel
theorem pd_13 : parseMethodDescriptor "(Ljava/util/List;Ljava/util/Optional;)V" = some ⟨[(.object "java/util/List"), (.object "java/util/Optional")], none⟩ := by decide +kernel
theorem d11_11 : decode prog_13_method_2_code 11 = .ok (.areturn, 1) := by decide +kernel
theorem d14_0 : decode prog_13_method_4_code 0 = .ok (.aload_n 0, 1) := by decide +kernel
theorem d14_1 : decode prog_13_method_4_code 1 = .ok (.getfield 7, 3) := by decide +kernel
theorem d14_4 : decode prog_13_method_4_code 4 = .ok (.areturn, 1) := by decide +kernel
theorem d25_0 : decode jdk_42_method_66_code 0 = .ok (.aload_n 0, 1) := by decide +kernel
theorem d25_1 : decode jdk_42_method_66_code 1 = .ok (.aload_n 1, 1) := by decide +kernel
theorem d25_2 : decode jdk_42_method_66_code 2 = .ok (.if_acmp .ne 5, 3) := by decide +kernel
theorem d25_5 : decode jdk_42_method_66_code 5 = .ok (.iconst 1, 1) := by decide +kernel
theorem d25_6 : decode jdk_42_method_66_code 6 = .ok (.ireturn, 1) := by decide +kernel
theorem pd_14 : parseMethodDescriptor "(I)Ljava/lang/String;" = some ⟨[.int], some (.object "java/lang/String")⟩ := by decide +kernel
theorem pd_15 : parseMethodDescriptor "(Ljava/util/List;)Lcom/example/axiomwright/axiomwright/cli/Timings;" = some ⟨[(.object "java/util/List")], some (.object "com/example/axiomwright/axiomwright/cli/Timings")⟩ := by decide +kernel
theorem pd_16 : parseMethodDescriptor "()Ljava/util/List;" = some ⟨[], some (.object "java/util/List")⟩ := by decide +kernel
theorem pd_17 : parseMethodDescriptor "()I" = some ⟨[], some .int⟩ := by decide +kernel
theorem pd_18 : parseMethodDescriptor "(Ljava/lang/Object;)Z" = some ⟨[(.object "java/lang/Object")], some .boolean⟩ := by decide +kernel
theorem own_w {Z : State} {a0 : Array Value} (hw : ∀ d ∈ tables_1, d.before a0 Z = true) (i : Nat) {d : Jvm.Cond} (h : tables_1[i]? = some d) : d.before a0 Z = true := hw _ (List.mem_of_getElem? h)
theorem own_eqint {args : Array Value} {s : State} {t : Term} {k : Int32} (h : (Jvm.Cond.eq t (Term.int k)).value args s none s [] = some true) : t.eval args s none [] s = some (.int k) := by
  simp only [Cond.value, Term.eval] at h
  cases ht : t.eval args s none [] s with
  | none => simp [ht] at h
  | some x => cases x <;> simp [ht] at h ⊢; exact h
theorem own_safeS {Z : State} {EL : List (String × Nat)} {vm : Vm} {h : Heap} {x : Addr} (hal : Z.vm.Alike vm) (F : Fld Z h x "java/lang/String" "value" "[B" .null) (E : Exa Z h x "java/lang/String") : Safe Z EL vm h x := fun B => by
  obtain ⟨p, -, u, a, -, q, -, G, rfl | rfl⟩ := B
  · obtain ⟨cell, cf, k, i, f, h1, h2, h3, h4, h5, h6, h7⟩ := F
    cases (show h[q.sa]? = some q.sC from G.ha).symm.trans h1
    obtain ⟨cS, ⟨⟨s1, s2, s3, ⟨cv, kv, iv, s4, s4'⟩, -, s6, s7, s8, s9⟩, -⟩, -⟩ := G
    obtain ⟨k', e⟩ := ff_back (U := Wst Z vm h) hal s4
    cases h2.symm.trans e
    cases h7.symm.trans s8
  · obtain ⟨cell, k, e1, e2, e3, -, -⟩ := E
    cases (show h[q.sd]? = some q.SA from G.hd).symm.trans e1
    obtain ⟨cS, -, -, f, -⟩ := G
    have f' : Z.vm.findClass "[B" = some q.SA.cls := by rw [← hal.findClass]; exact f
    obtain ⟨k1, q1, q2⟩ := Vm.findClass_spec f'
    obtain ⟨k2, q3, q4⟩ := Vm.findClass_spec e2
    cases q1.symm.trans q3
    exact absurd (q2.symm.trans q4) (by decide)
theorem own_staK {Z : State} {h h' : Heap} {C n d : String} {v : Value} {ws : List Addr} (F : Sta Z h C n d v) (K : Keep h h' ws) (hn : ∀ x ∈ ws, ∀ cell : Cell, h[x]? = some cell → cell.vm.isStatics = false) : Sta Z h' C n d v := by
  obtain ⟨cf, i, k, f, st, cell, h1, h2, h3, h4, h5, h6, h7⟩ := F
  exact ⟨cf, i, k, f, st, cell, h1, h2, h3, h4, K.2.1 _ _ h5 (fun hm => by have := hn _ hm _ h5; rw [h6] at this; cases this), h6, h7⟩
theorem own_nsE {Z : State} {h : Heap} {a : Addr} {C : String} (E : Exa Z h a C) : ∀ cell : Cell, h[a]? = some cell → cell.vm.isStatics = false := fun cell q => by
  obtain ⟨c, k, e1, -, -, e4, -⟩ := E
  cases e1.symm.trans q
  exact e4
theorem own_nsV {Z : State} {h : Heap} {a : Addr} {k : ClassId} {ty : FieldType} {z : Int32} {vs : List Value} {dv : Value} (F : Arv Z h a k ty z vs dv) : ∀ cell : Cell, h[a]? = some cell → cell.vm.isStatics = false := fun cell q => by
  obtain ⟨c, A, -⟩ := F
  cases A.1.symm.trans q
  have h1 := A.2.1.1
  cases hv : cell.vm with
  | statics y => exact absurd hv (h1 y)
  | _ => rfl
theorem own_extK {h h' : Heap} (K : Keep h h' []) : Ext h h' := ⟨K.1, fun a c q => K.2.1 a c q (by simp)⟩
theorem own_c255 (x : Int32) : ¬ ((255 : Int32) < nar .char ((x &&& (255 : Int32)).toUInt32.toUInt16.toUInt32.toInt32)) := by
  have h := c_and x 255 (by decide)
  have e : (255 : Int32).toInt = 255 := rfl
  rw [e] at h
  have h1 := c_i2c (x &&& (255 : Int32))
  have h2 := c_i2c ((x &&& (255 : Int32)).toUInt32.toUInt16.toUInt32.toInt32)
  rw [Int32.lt_iff_toInt_lt, e]
  show ¬ (255 < ((x &&& (255 : Int32)).toUInt32.toUInt16.toUInt32.toInt32.toUInt32.toUInt16.toUInt32.toInt32).toInt)
  omega
theorem own_and3 (x : Int32) : (x &&& (3 : Int32)) = (0 : Int32) ∨ (x &&& (3 : Int32)) = (1 : Int32) ∨ (x &&& (3 : Int32)) = (2 : Int32) ∨ (x &&& (3 : Int32)) = (3 : Int32) := by
  have h := c_and x 3 (by decide)
  have e : (3 : Int32).toInt = 3 := rfl
  rw [e] at h
  simp only [← Int32.toInt_inj]
  simp only [Int32.reduceToInt]
  omega
theorem own_emp {s : State} {args : Array Value} {t : Term} {a : Addr} {ty : FieldType} {dv : Value} (hf : Fit s) (ev : t.eval args s none [] s = some (.ref a)) (ha : (Jvm.Cond.arrayOf t ty).value args s none s [] = some true) (hl : (Jvm.Cond.eq (Term.length t) (Term.int (0 : Int32))).value args s none s [] = some true) : ∃ k, Arv s s.heap a k ty (0 : Int32) [] dv := by
  obtain ⟨cl, A⟩ := Arr.start ev ha
  have hlen := own_eqint hl
  obtain ⟨b, cell, e1, e2, e3⟩ := Term.length_spec hlen
  cases ev.symm.trans e1
  have hcl : cell = cl := by
    simp only [State.arrayAt?, Option.bind_eq_bind, A.1, Option.bind_some] at e2
    grind
  subst hcl
  have h31 := Jvm.Free.SBG.length_lt ev e2 hlen
  injection e3 with e3
  exact ⟨cell.cls, Arv.start hf A h31 e3.symm (by decide) rfl trivial⟩
def own_vs (t : String) : List Value := t.toList.map (fun c => Value.int (Jvm.Lit.byteI c.toNat.toUInt16))
theorem own_ht (t : String) (h : ∀ c ∈ t.toList, c.toNat < 256) : (∀ c ∈ t.toList, c.toNat < 256) ∧ t.toList.map (fun c => Value.int (Jvm.Lit.byteI c.toNat.toUInt16)) = own_vs t := ⟨h, rfl⟩
theorem own_vl (t : String) (n : Nat) {z : Int32} (h : z.toNatClampNeg = n) (h2 : t.toList.length = n) : z.toNatClampNeg = (own_vs t).length := by rw [h, own_vs, List.length_map, h2]

theorem own_wS {Z : State} {a0 : Array Value} (hw : ∀ d ∈ tables_1, d.before a0 Z = true) : ∀ a ∈ Bundle.stringAtoms, a.before a0 Z = true := fun a ha => by
  simp only [Bundle.stringAtoms, List.mem_cons, List.not_mem_nil, or_false] at ha
  rcases ha with rfl | rfl | rfl | rfl | rfl | rfl | rfl
  · exact hw _ (List.mem_of_getElem? (i := 5) rfl)
  · exact hw _ (List.mem_of_getElem? (i := 6) rfl)
  · exact hw _ (List.mem_of_getElem? (i := 7) rfl)
  · exact hw _ (List.mem_of_getElem? (i := 8) rfl)
  · exact hw _ (List.mem_of_getElem? (i := 9) rfl)
  · exact hw _ (List.mem_of_getElem? (i := 10) rfl)
  · exact hw _ (List.mem_of_getElem? (i := 11) rfl)
def Qcmp5_1 (Z : State) (ar : Addr) (br : Addr) (ka : ClassId) (kb : ClassId) (c0 : Int32) (h0 : Heap) (n0 : Nat) (v : Option Value) (h : Heap) (L : List Loc) : Prop := v = some (.int (1 : Int32)) ∧ Fr n0 L ∧ Keep h0 h [br] ∧ Arv Z h br kb .byte (1 : Int32) [(.int (c0.toInt8.toInt32.toInt8.toInt32))] (.int (0 : Int32))
theorem efcmp5_1 (m : MethodId) (x0 : Addr) (x2 : Addr) : entryFrame m #[(.ref x0), (.int (0 : Int32)), (.ref x2), (.int (0 : Int32)), (.int (1 : Int32))] 7 = mkF m 0 #[.val (.ref x0), .val (.int (0 : Int32)), .val (.ref x2), .val (.int (0 : Int32)), .val (.int (1 : Int32)), .unset, .unset] [] := by first | (simp [entryFrame, mkF, argsToLocals, Value.category]; done) | rfl
set_option maxRecDepth 65536 in
set_option maxHeartbeats 40000000 in
theorem cmp5_1 (l : Launch) (Z : State) (a0 : Array Value) (hw : ∀ d ∈ tables_1, d.before a0 Z = true) (ws : List Jvm.Cond) (ar : Addr) (br : Addr) (ka : ClassId) (kb : ClassId) (c0 : Int32) (h0 : Heap) (n0 : Nat) (Z0 : n0 ≤ h0.size) (P0 : Arv Z h0 ar ka .char (1 : Int32) [(.int c0)] (.int (0 : Int32))) (P1 : Arv Z h0 br kb .byte (1 : Int32) [(.int (0 : Int32))] (.int (0 : Int32))) (g_br : n0 ≤ br) (ne_ar_br : ar ≠ br) (hc0 : ¬ ((255 : Int32) < c0)) :
    MetFree l (⟨"java/lang/StringUTF16", "compress", "([CI[BII)I"⟩ : MethodName) (head1 (Jvm.Cond.code (⟨"java/lang/StringUTF16", "compress", "([CI[BII)I"⟩ : MethodName) jdk_52_method_21_code 7 (some .int) :: ws) ({ frames := 0, cells := 0, slots := 0, locals := 0 } : Room)) (fun a U => a = #[(.ref ar), (.int (0 : Int32)), (.ref br), (.int (0 : Int32)), (.int (1 : Int32))] ∧ Z.Warmed39 U.vm ∧ U.heap = h0) (fun _ _ _ _ _ => True) (fun _ U o U' => ∃ v L, o = .returned v ∧ Qcmp5_1 Z ar br ka kb c0 h0 n0 v U'.heap L ∧ FrameEnd U o U' L ({ frames := 0, cells := 0, slots := 0, locals := 0 } : Room).cells ({ frames := 0, cells := 0, slots := 0, locals := 0 } : Room).slots) := by
  refine MetFree.of_bodySF (plainFor_of_name pn_0) hisR ?_
  intro p e s m args below meth c s₁ Bd hml0 hP hK
  obtain ⟨rfl, hZ, hh⟩ := hP
  have hx := Bd.exec
  have hby := Bd.bytes
  have hml : c.maxLocals = 7 := hml0
  have hown : s.vm.findClass "java/lang/StringUTF16" = some m.cls := findClass_of_methodNamed Bd.named
  have hnm := (name_of_methodNamed Bd.named Bd.method).1
  have X0 : Stand p l e ({ frames := 0, cells := 0, slots := 0, locals := 0 } : Room) s m #[(.ref ar), (.int (0 : Int32)), (.ref br), (.int (0 : Int32)), (.int (1 : Int32))] below meth c s₁ [] 0 0 := Stand.of_body Bd
  have e0 : s₁.heap = h0 := by rw [← hh, Bd.state]; rfl
  have N0 := Fr.nil n0
  have K0 : Keep h0 h0 [br] := Keep.refl h0 _
  refine own_go (B := s₁.setTop (mkF m 0 #[.val (.ref ar), .val (.int (0 : Int32)), .val (.ref br), .val (.int (0 : Int32)), .val (.int (1 : Int32)), .unset, .unset] [])) (fun t k => castTop (efcmp5_1 m ar br) k) ?_
  refine own_go (B := s₁.setTop (mkF m 12 #[.val (.ref ar), .val (.int (0 : Int32)), .val (.ref br), .val (.int (0 : Int32)), .val (.int (1 : Int32)), .val (.int (0 : Int32)), .unset] [(.int (0 : Int32)), (.ref ar)])) (fun t k => ?_) ?_
  · refine XS.iconst X0.here hx rfl (hb hby d6_0) ?_
    refine XS.istore X0.here hx rfl (hb hby d6_1) rfl (l' := #[.val (.ref ar), .val (.int (0 : Int32)), .val (.ref br), .val (.int (0 : Int32)), .val (.int (1 : Int32)), .val (.int (0 : Int32)), .unset]) rfl ?_
    refine XS.iload X0.here hx rfl (hb hby d6_3) rfl ?_
    refine XS.iload X0.here hx rfl (hb hby d6_5) rfl ?_
    refine XS.icmpNo X0.here hx rfl (hb hby d6_7) rfl (tlt (by decide : ((0 : Int32) < (1 : Int32)))).2.1 ?_
    refine XS.aloadN X0.here hx rfl (hb hby d6_10) rfl rfl ?_
    refine XS.iloadN X0.here hx rfl (hb hby d6_11) rfl ?_
    exact k
  obtain ⟨cl2, Ar2, q2, S2, M2, Ha2, G2⟩ := id P0
  have hin2 : ¬ ((0 : Int32) < 0 ∨ cl2.slots.size ≤ ((0 : Int32)).toNatClampNeg) := inb_of S2 ⟨by decide, by decide⟩
  refine own_go (X0.caload hx (j := (0 : Int32)) (v := (.int c0)) (by rw [e0]; exact Ar2.1) (State.isArrayOf_alike hZ.alike Ar2.2.1) Ar2.2.2 hin2 (Has.at Ha2 hin2 rfl) (g := (mkF m 12 #[.val (.ref ar), .val (.int (0 : Int32)), .val (.ref br), .val (.int (0 : Int32)), .val (.int (1 : Int32)), .val (.int (0 : Int32)), .unset] [(.int (0 : Int32)), (.ref ar)])) rfl rfl (hb hby d6_12)) ?_
  refine own_go (B := s₁.setTop (mkF m 20 #[.val (.ref ar), .val (.int (0 : Int32)), .val (.ref br), .val (.int (0 : Int32)), .val (.int (1 : Int32)), .val (.int (0 : Int32)), .val (.int c0)] [(.int (255 : Int32)), (.int c0)])) (fun t k => ?_) ?_
  · refine XS.istore X0.here hx rfl (hb hby d6_13) rfl (l' := #[.val (.ref ar), .val (.int (0 : Int32)), .val (.ref br), .val (.int (0 : Int32)), .val (.int (1 : Int32)), .val (.int (0 : Int32)), .val (.int c0)]) rfl ?_
    refine XS.iload X0.here hx rfl (hb hby d6_15) rfl ?_
    refine XS.sipush X0.here hx rfl (hb hby d6_17) ?_
    exact k
  have hc20_3 : ¬ ((255 : Int32) < c0) := hc0
  refine own_go (B := s₁.setTop (mkF m 31 #[.val (.ref ar), .val (.int (0 : Int32)), .val (.ref br), .val (.int (0 : Int32)), .val (.int (1 : Int32)), .val (.int (0 : Int32)), .val (.int c0)] [(.int (c0.toInt8.toInt32)), (.int (0 : Int32)), (.ref br)])) (fun t k => ?_) ?_
  · refine XS.icmpYes X0.here hx rfl (pc0 := 20) (pc' := 26) rfl (hb hby d6_20) rfl (flt hc20_3).2.2.2 (by decide) (by decide) ?_
    refine XS.aloadN X0.here hx rfl (hb hby d6_26) rfl rfl ?_
    refine XS.iloadN X0.here hx rfl (hb hby d6_27) rfl ?_
    refine XS.iload X0.here hx rfl (hb hby d6_28) rfl ?_
    refine XS.i2b X0.here hx rfl (hb hby d6_30) rfl ?_
    exact k
  obtain ⟨cl4, Ar4, q4, S4, M4, Ha4, G4⟩ := P1
  have hin4 : ¬ ((0 : Int32) < 0 ∨ cl4.slots.size ≤ ((0 : Int32)).toNatClampNeg) := inb_of S4 ⟨by decide, by decide⟩
  obtain ⟨T4, h4, X4, e4, W4, st4⟩ := stB X0 hx hZ e0 Ar4 (j := (0 : Int32)) hin4 (g := (mkF m 31 #[.val (.ref ar), .val (.int (0 : Int32)), .val (.ref br), .val (.int (0 : Int32)), .val (.int (1 : Int32)), .val (.int (0 : Int32)), .val (.int c0)] [(.int (c0.toInt8.toInt32)), (.int (0 : Int32)), (.ref br)])) rfl rfl (hb hby d6_31)
  have Q5 : Arv Z h4 ar ka .char (1 : Int32) [(.int c0)] (.int (0 : Int32)) := P0.other W4 ne_ar_br
  have U4 : Arv Z h4 br kb .byte (1 : Int32) [(.int ((c0.toInt8.toInt32).toInt8.toInt32))] (.int (0 : Int32)) := Arv.set Ar4 q4 S4 M4 Ha4 G4 (fits_nar_byte _) W4 0 rfl (Nat.le_of_ble_eq_true rfl)
  have Z4 : n0 ≤ h4.size := Nat.le_trans Z0 (Keep.of_wr W4).1
  have N4 := Fr.snoc X4 N0 g_br
  have K4 := K0.wr W4 (Or.inl (List.mem_of_getElem? (i := 0) rfl))
  refine own_go st4 ?_
  refine own_go (B := T4.setTop (mkF m 46 #[.val (.ref ar), .val (.int (1 : Int32)), .val (.ref br), .val (.int (1 : Int32)), .val (.int (1 : Int32)), .val (.int (1 : Int32)), .val (.int c0)] [(.int (1 : Int32))])) (fun t k => ?_) ?_
  · refine XS.iinc X4.here hx rfl (hb hby d6_32) rfl (l' := #[.val (.ref ar), .val (.int (1 : Int32)), .val (.ref br), .val (.int (0 : Int32)), .val (.int (1 : Int32)), .val (.int (0 : Int32)), .val (.int c0)]) rfl ?_
    refine XS.iinc X4.here hx rfl (hb hby d6_35) rfl (l' := #[.val (.ref ar), .val (.int (1 : Int32)), .val (.ref br), .val (.int (1 : Int32)), .val (.int (1 : Int32)), .val (.int (0 : Int32)), .val (.int c0)]) rfl ?_
    refine XS.iinc X4.here hx rfl (hb hby d6_38) rfl (l' := #[.val (.ref ar), .val (.int (1 : Int32)), .val (.ref br), .val (.int (1 : Int32)), .val (.int (1 : Int32)), .val (.int (1 : Int32)), .val (.int c0)]) rfl ?_
    refine XS.goto X4.here hx rfl (pc0 := 41) (pc' := 3) rfl (hb hby d6_41) (by decide) (by decide) ?_
    refine XS.iload X4.here hx rfl (hb hby d6_3) rfl ?_
    refine XS.iload X4.here hx rfl (hb hby d6_5) rfl ?_
    refine XS.icmpYes X4.here hx rfl (pc0 := 7) (pc' := 44) rfl (hb hby d6_7) rfl (flt Int32.lt_irrefl).2.1 (by decide) (by decide) ?_
    refine XS.iload X4.here hx rfl (hb hby d6_44) rfl ?_
    exact k
  obtain ⟨fs, hr, hrun, hended, hW, hsame⟩ := X4.leave (v := some (.int (1 : Int32))) (fun h => by rw [Bd.returns] at h; cases h)
  refine ⟨_, _, ?_, hrun, hended, _, _, rfl, ?_, ⟨_, rfl⟩, hW, hsame.mono (by decide) (by decide)⟩
  · show Steps p.tables e below (T4.setTop (mkF m 46 #[.val (.ref ar), .val (.int (1 : Int32)), .val (.ref br), .val (.int (1 : Int32)), .val (.int (1 : Int32)), .val (.int (1 : Int32)), .val (.int c0)] [(.int (1 : Int32))])) _
    exact retOut X4 hx Bd.returns rfl (Or.inl ⟨rfl, Or.inl rfl, _, rfl⟩) (hb hby d6_46) hr
  · show Qcmp5_1 Z ar br ka kb c0 h0 n0 _ T4.heap _
    rw [e4]
    exact ⟨rfl, N4, K4, U4⟩
def Qcmp3_1 (Z : State) (ar : Addr) (ka : ClassId) (c0 : Int32) (h0 : Heap) (n0 : Nat) (v : Option Value) (h : Heap) (L : List Loc) : Prop := ∃ br : Addr, ∃ kb : ClassId, v = some (.ref br) ∧ Fr n0 L ∧ Keep h0 h [] ∧ h0.size ≤ br ∧ Arv Z h br kb .byte (1 : Int32) [(.int (c0.toInt8.toInt32.toInt8.toInt32))] (.int (0 : Int32))
theorem efcmp3_1 (m : MethodId) (x0 : Addr) : entryFrame m #[(.ref x0), (.int (0 : Int32)), (.int (1 : Int32))] 6 = mkF m 0 #[.val (.ref x0), .val (.int (0 : Int32)), .val (.int (1 : Int32)), .unset, .unset, .unset] [] := by first | (simp [entryFrame, mkF, argsToLocals, Value.category]; done) | rfl
set_option maxRecDepth 65536 in
set_option maxHeartbeats 40000000 in
theorem cmp3_1 (l : Launch) (Z : State) (a0 : Array Value) (hw : ∀ d ∈ tables_1, d.before a0 Z = true) (ws : List Jvm.Cond) (ar : Addr) (ka : ClassId) (c0 : Int32) (h0 : Heap) (n0 : Nat) (Z0 : n0 ≤ h0.size) (P0 : Arv Z h0 ar ka .char (1 : Int32) [(.int c0)] (.int (0 : Int32))) (hc0 : ¬ ((255 : Int32) < c0)) :
    MetFree l (⟨"java/lang/StringUTF16", "compress", "([CII)[B"⟩ : MethodName) (head1 (Jvm.Cond.code (⟨"java/lang/StringUTF16", "compress", "([CII)[B"⟩ : MethodName) jdk_52_method_16_code 6 (some (.array .byte)) :: ws) ({ frames := 1, cells := 1, slots := 1, locals := 18 } : Room)) (fun a U => a = #[(.ref ar), (.int (0 : Int32)), (.int (1 : Int32))] ∧ Z.Warmed39 U.vm ∧ U.heap = h0) (fun _ _ _ _ _ => True) (fun _ U o U' => ∃ v L, o = .returned v ∧ Qcmp3_1 Z ar ka c0 h0 n0 v U'.heap L ∧ FrameEnd U o U' L ({ frames := 1, cells := 1, slots := 1, locals := 18 } : Room).cells ({ frames := 1, cells := 1, slots := 1, locals := 18 } : Room).slots) := by
  refine MetFree.of_bodySF (plainFor_of_name pn_0) hisR ?_
  intro p e s m args below meth c s₁ Bd hml0 hP hK
  obtain ⟨rfl, hZ, hh⟩ := hP
  have hx := Bd.exec
  have hby := Bd.bytes
  have hml : c.maxLocals = 6 := hml0
  have hown : s.vm.findClass "java/lang/StringUTF16" = some m.cls := findClass_of_methodNamed Bd.named
  have hnm := (name_of_methodNamed Bd.named Bd.method).1
  have X0 : Stand p l e ({ frames := 1, cells := 1, slots := 1, locals := 18 } : Room) s m #[(.ref ar), (.int (0 : Int32)), (.int (1 : Int32))] below meth c s₁ [] 0 0 := Stand.of_body Bd
  have e0 : s₁.heap = h0 := by rw [← hh, Bd.state]; rfl
  have N0 := Fr.nil n0
  have K0 : Keep h0 h0 [] := Keep.refl h0 _
  refine own_go (B := s₁.setTop (mkF m 0 #[.val (.ref ar), .val (.int (0 : Int32)), .val (.int (1 : Int32)), .unset, .unset, .unset] [])) (fun t k => castTop (efcmp3_1 m ar) k) ?_
  refine own_go (B := s₁.setTop (mkF m 1 #[.val (.ref ar), .val (.int (0 : Int32)), .val (.int (1 : Int32)), .unset, .unset, .unset] [(.int (1 : Int32))])) (fun t k => ?_) ?_
  · refine XS.iloadN X0.here hx rfl (hb hby d5_0) rfl ?_
    exact k
  obtain ⟨T7, h7, k7, X7, e7, E7, A7, st7⟩ := newP X0 hx hZ (own_w hw 7 rfl) e0 (g := (mkF m 1 #[.val (.ref ar), .val (.int (0 : Int32)), .val (.int (1 : Int32)), .unset, .unset, .unset] [(.int (1 : Int32))])) rfl (hb hby d5_1) rfl (by decide) (cap := 1) (by decide) (by decide) (by decide) (by decide)
  obtain ⟨b7, g7⟩ : ∃ z, z = h0.size := ⟨_, rfl⟩
  rw [← g7] at A7 st7
  have ne7_ar : ar ≠ b7 := Nat.ne_of_lt (Nat.lt_of_lt_of_le P0.lt (Nat.le_of_eq g7.symm))
  have low7 : n0 ≤ b7 := Nat.le_trans Z0 (Nat.le_of_eq g7.symm)
  have sz7 : h0.size ≤ b7 := Nat.le_trans K0.1 (Nat.le_of_eq g7.symm)
  have Q8 : Arv Z h7 ar ka .char (1 : Int32) [(.int c0)] (.int (0 : Int32)) := P0.ext E7
  have Z7 : n0 ≤ h7.size := Nat.le_trans Z0 E7.1
  have K7 := K0.ext E7
  have V7 : Arv Z h7 b7 k7 .byte (1 : Int32) [(.int (0 : Int32))] (.int (0 : Int32)) := (Arv.new A7 (by decide)).pad (pad_rep [] (.int (0 : Int32)) 1)
  refine own_go st7 ?_
  refine own_go (B := T7.setTop (mkF m 9 #[.val (.ref ar), .val (.int (0 : Int32)), .val (.int (1 : Int32)), .val (.ref b7), .unset, .unset] [(.int (1 : Int32)), (.int (0 : Int32)), (.ref b7), (.int (0 : Int32)), (.ref ar)])) (fun t k => ?_) ?_
  · refine XS.astoreN X7.here hx rfl (hb hby d5_3) rfl rfl (l' := #[.val (.ref ar), .val (.int (0 : Int32)), .val (.int (1 : Int32)), .val (.ref b7), .unset, .unset]) rfl ?_
    refine XS.aloadN X7.here hx rfl (hb hby d5_4) rfl rfl ?_
    refine XS.iloadN X7.here hx rfl (hb hby d5_5) rfl ?_
    refine XS.aloadN X7.here hx rfl (hb hby d5_6) rfl rfl ?_
    refine XS.iconst X7.here hx rfl (hb hby d5_7) ?_
    refine XS.iloadN X7.here hx rfl (hb hby d5_8) rfl ?_
    exact k
  obtain ⟨_, _, ⟨T9, L9, k9, n9⟩, -, X9, ⟨Lc9, hQ9, l9, y9, z9⟩, st9⟩ := Jvm.LawKit.callS X7 hx (y := (⟨"java/lang/StringUTF16", "compress", "([CI[BII)I"⟩ : MethodName)) hown (mvT hZ (own_w hw 29 rfl)) (mvT hZ (own_w hw 30 rfl)) (mvT hZ (own_w hw 27 rfl)) (mvT hZ (own_w hw 31 rfl)) (by decide) (backOf (W := 0) (cmp5_1 l Z a0 hw [] ar b7 ka k7 c0 h7 n0 Z7 Q8 V7 low7 ne7_ar hc0) hZ (own_w hw 31 rfl) (own_w hw 27 rfl) (by decide) (by decide)) (g := (mkF m 9 #[.val (.ref ar), .val (.int (0 : Int32)), .val (.int (1 : Int32)), .val (.ref b7), .unset, .unset] [(.int (1 : Int32)), (.int (0 : Int32)), (.ref b7), (.int (0 : Int32)), (.ref ar)])) rfl (by rw [hml]; rfl) (argsL := [(.ref ar), (.int (0 : Int32)), (.ref b7), (.int (0 : Int32)), (.int (1 : Int32))]) (rest := []) (lenOf pd_0 rfl) rfl (by show 2 * 0 + _ ≤ _; exact Nat.le_of_eq rfl) (hb hby d5_9) (fun _ _ => ⟨rfl, e7, (by decide : 1 + 0 ≤ _), (by decide : 1 + 0 ≤ _)⟩)
  dsimp only [Pt.U, Pt.locs, Pt.cells, Pt.slots] at X9 l9 y9 z9 st9 hQ9
  subst l9 y9 z9
  obtain ⟨rfl, Nq9, Kq9, U9_0⟩ := hQ9
  have Q10 : Arv Z T9.heap ar ka .char (1 : Int32) [(.int c0)] (.int (0 : Int32)) := Q8.keep Kq9 (ninS ne7_ar nin0)
  have Z9 : n0 ≤ T9.heap.size := Nat.le_trans Z7 Kq9.1
  have K9 : Keep h0 T9.heap [] := K7.trans Kq9 (allS (Or.inr sz7) all0)
  have N9 := Fr.app N0 Nq9
  refine own_go (B := T9.setTop (mkF m 12 #[.val (.ref ar), .val (.int (0 : Int32)), .val (.int (1 : Int32)), .val (.ref b7), .unset, .unset] [(.int (1 : Int32))])) st9 ?_
  refine own_go (B := T9.setTop (mkF m 58 #[.val (.ref ar), .val (.int (0 : Int32)), .val (.int (1 : Int32)), .val (.ref b7), .val (.int (1 : Int32)), .unset] [(.ref b7)])) (fun t k => ?_) ?_
  · refine XS.istore X9.here hx rfl (hb hby d5_12) rfl (l' := #[.val (.ref ar), .val (.int (0 : Int32)), .val (.int (1 : Int32)), .val (.ref b7), .val (.int (1 : Int32)), .unset]) rfl ?_
    refine XS.iload X9.here hx rfl (hb hby d5_14) rfl ?_
    refine XS.iloadN X9.here hx rfl (hb hby d5_16) rfl ?_
    refine XS.icmpYes X9.here hx rfl (pc0 := 17) (pc' := 57) rfl (hb hby d5_17) rfl (teq (rfl : (1 : Int32) = (1 : Int32))).1 (by decide) (by decide) ?_
    refine XS.aloadN X9.here hx rfl (hb hby d5_57) rfl rfl ?_
    exact k
  obtain ⟨fs, hr, hrun, hended, hW, hsame⟩ := X9.leave (v := some (.ref b7)) (fun h => by rw [Bd.returns] at h; cases h)
  refine ⟨_, _, ?_, hrun, hended, _, _, rfl, ?_, ⟨_, rfl⟩, hW, hsame.mono (by decide) (by decide)⟩
  · show Steps p.tables e below (T9.setTop (mkF m 58 #[.val (.ref ar), .val (.int (0 : Int32)), .val (.int (1 : Int32)), .val (.ref b7), .val (.int (1 : Int32)), .unset] [(.ref b7)])) _
    exact retOut X9 hx Bd.returns rfl (Or.inr (Or.inr (Or.inr (Or.inr ⟨rfl, rfl, rfl⟩)))) (hb hby d5_58) hr
  · show Qcmp3_1 Z ar ka c0 h0 n0 _ T9.heap _
    skip
    exact ⟨b7, k7, rfl, N9, K9, sz7, U9_0⟩
def Qcfal_1 (Z : State) (br : Addr) (kb : ClassId) (c0 : Int32) (h0 : Heap) (n0 : Nat) (v : Option Value) (h : Heap) (L : List Loc) : Prop := v = some (.int (nar .byte ((0 : Int32).toInt8.toInt32))) ∧ Fr n0 L ∧ h = h0
theorem efcfal_1 (m : MethodId) (x0 : Addr) : entryFrame m #[(.ref x0), (.int (1 : Int32))] 2 = mkF m 0 #[.val (.ref x0), .val (.int (1 : Int32))] [] := by first | (simp [entryFrame, mkF, argsToLocals, Value.category]; done) | rfl
set_option maxRecDepth 65536 in
set_option maxHeartbeats 40000000 in
theorem cfal_1 (l : Launch) (Z : State) (a0 : Array Value) (hw : ∀ d ∈ tables_1, d.before a0 Z = true) (ws : List Jvm.Cond) (br : Addr) (kb : ClassId) (c0 : Int32) (h0 : Heap) (n0 : Nat) (Z0 : n0 ≤ h0.size) (P0 : Arv Z h0 br kb .byte (1 : Int32) [(.int c0)] (.int (0 : Int32))) :
    MetFree l (⟨"java/lang/StringUTF16", "coderFromArrayLen", "([BI)B"⟩ : MethodName) (head1 (Jvm.Cond.code (⟨"java/lang/StringUTF16", "coderFromArrayLen", "([BI)B"⟩ : MethodName) jdk_52_method_15_code 2 (some .byte) :: ws) ({ frames := 0, cells := 0, slots := 0, locals := 0 } : Room)) (fun a U => a = #[(.ref br), (.int (1 : Int32))] ∧ Z.Warmed39 U.vm ∧ U.heap = h0) (fun _ _ _ _ _ => True) (fun _ U o U' => ∃ v L, o = .returned v ∧ Qcfal_1 Z br kb c0 h0 n0 v U'.heap L ∧ FrameEnd U o U' L ({ frames := 0, cells := 0, slots := 0, locals := 0 } : Room).cells ({ frames := 0, cells := 0, slots := 0, locals := 0 } : Room).slots) := by
  refine MetFree.of_bodySF (plainFor_of_name pn_0) hisR ?_
  intro p e s m args below meth c s₁ Bd hml0 hP hK
  obtain ⟨rfl, hZ, hh⟩ := hP
  have hx := Bd.exec
  have hby := Bd.bytes
  have hml : c.maxLocals = 2 := hml0
  have hown : s.vm.findClass "java/lang/StringUTF16" = some m.cls := findClass_of_methodNamed Bd.named
  have hnm := (name_of_methodNamed Bd.named Bd.method).1
  have X0 : Stand p l e ({ frames := 0, cells := 0, slots := 0, locals := 0 } : Room) s m #[(.ref br), (.int (1 : Int32))] below meth c s₁ [] 0 0 := Stand.of_body Bd
  have e0 : s₁.heap = h0 := by rw [← hh, Bd.state]; rfl
  have N0 := Fr.nil n0
  have K0 : Keep h0 h0 [] := Keep.refl h0 _
  refine own_go (B := s₁.setTop (mkF m 0 #[.val (.ref br), .val (.int (1 : Int32))] [])) (fun t k => castTop (efcfal_1 m br) k) ?_
  refine own_go (B := s₁.setTop (mkF m 2 #[.val (.ref br), .val (.int (1 : Int32))] [(.ref br), (.int (1 : Int32))])) (fun t k => ?_) ?_
  · refine XS.iloadN X0.here hx rfl (hb hby d7_0) rfl ?_
    refine XS.aloadN X0.here hx rfl (hb hby d7_1) rfl rfl ?_
    exact k
  obtain ⟨cl12, Ar12, q12, S12, M12, Ha12, G12⟩ := id P0
  refine own_go (B := s₁.setTop (mkF m 3 #[.val (.ref br), .val (.int (1 : Int32))] [(.int (1 : Int32)), (.int (1 : Int32))])) (fun t k => ?_) ?_
  · refine X0.arraylength hx (by rw [e0]; exact Ar12.1) (State.isArrayOf_alike hZ.alike Ar12.2.1) (g := (mkF m 2 #[.val (.ref br), .val (.int (1 : Int32))] [(.ref br), (.int (1 : Int32))])) rfl rfl (hb hby d7_2) _ ?_
    rw [len_of S12 M12]
    exact k
  refine own_go (B := s₁.setTop (mkF m 8 #[.val (.ref br), .val (.int (1 : Int32))] [(.int ((0 : Int32).toInt8.toInt32))])) (fun t k => ?_) ?_
  · refine XS.isub X0.here hx rfl (hb hby d7_3) rfl ?_
    refine XS.bipush X0.here hx rfl (hb hby d7_4) ?_
    refine XS.iushr X0.here hx rfl (hb hby d7_6) rfl ?_
    refine XS.i2b X0.here hx rfl (hb hby d7_7) rfl ?_
    exact k
  obtain ⟨fs, hr, hrun, hended, hW, hsame⟩ := X0.leave (v := some (.int (nar .byte ((0 : Int32).toInt8.toInt32)))) (fun h => by rw [Bd.returns] at h; cases h)
  refine ⟨_, _, ?_, hrun, hended, _, _, rfl, ?_, ⟨_, rfl⟩, hW, hsame.mono (by decide) (by decide)⟩
  · show Steps p.tables e below (s₁.setTop (mkF m 8 #[.val (.ref br), .val (.int (1 : Int32))] [(.int ((0 : Int32).toInt8.toInt32))])) _
    exact retN X0 hx (t := .byte) Bd.returns (by simp) (hb hby d7_8) hr
  · show Qcfal_1 Z br kb c0 h0 n0 _ s₁.heap _
    rw [e0]
    exact ⟨rfl, N0, rfl⟩
def QiniV_1 (Z : State) (oo : Addr) (ar : Addr) (ka : ClassId) (c0 : Int32) (cs : Int32) (h0 : Heap) (n0 : Nat) (v : Option Value) (h : Heap) (L : List Loc) : Prop := v = none ∧ Fr n0 L ∧ Keep h0 h [oo]
theorem efiniV_1 (m : MethodId) (x0 : Addr) (x1 : Addr) : entryFrame m #[(.ref x0), (.ref x1), (.int (0 : Int32)), (.int (1 : Int32)), .null] 6 = mkF m 0 #[.val (.ref x0), .val (.ref x1), .val (.int (0 : Int32)), .val (.int (1 : Int32)), .val .null, .unset] [] := by first | (simp [entryFrame, mkF, argsToLocals, Value.category]; done) | rfl
set_option maxRecDepth 65536 in
set_option maxHeartbeats 40000000 in
theorem iniV_1 (l : Launch) (Z : State) (a0 : Array Value) (hw : ∀ d ∈ tables_1, d.before a0 Z = true) (ws : List Jvm.Cond) (oo : Addr) (ar : Addr) (ka : ClassId) (c0 : Int32) (cs : Int32) (h0 : Heap) (n0 : Nat) (Z0 : n0 ≤ h0.size) (P0 : Exa Z h0 oo "java/lang/String") (P1 : Fld Z h0 oo "java/lang/String" "value" "[B" .null) (P2 : Fld Z h0 oo "java/lang/String" "coder" "B" (.int (0 : Int32))) (P3 : Arv Z h0 ar ka .char (1 : Int32) [(.int c0)] (.int (0 : Int32))) (P4 : Sta Z h0 "java/lang/String" "COMPACT_STRINGS" "Z" (.int cs)) (g_oo : n0 ≤ oo) (ne_oo_ar : oo ≠ ar) (hc0 : ¬ ((255 : Int32) < c0)) (hcs : cs ≠ (0 : Int32)) :
    MetFree l (⟨"java/lang/String", "<init>", "([CIILjava/lang/Void;)V"⟩ : MethodName) (head1 (Jvm.Cond.code (⟨"java/lang/String", "<init>", "([CIILjava/lang/Void;)V"⟩ : MethodName) jdk_42_method_149_code 6 none :: ws) ({ frames := 2, cells := 1, slots := 1, locals := 35 } : Room)) (fun a U => a = #[(.ref oo), (.ref ar), (.int (0 : Int32)), (.int (1 : Int32)), .null] ∧ Z.Warmed39 U.vm ∧ U.heap = h0) (fun _ _ _ _ _ => True) (fun _ U o U' => ∃ v L, o = .returned v ∧ QiniV_1 Z oo ar ka c0 cs h0 n0 v U'.heap L ∧ FrameEnd U o U' L ({ frames := 2, cells := 1, slots := 1, locals := 35 } : Room).cells ({ frames := 2, cells := 1, slots := 1, locals := 35 } : Room).slots) := by
  refine MetFree.of_bodySF (plainFor_of_name pn_1) hisR ?_
  intro p e s m args below meth c s₁ Bd hml0 hP hK
  obtain ⟨rfl, hZ, hh⟩ := hP
  have hx := Bd.exec
  have hby := Bd.bytes
  have hml : c.maxLocals = 6 := hml0
  have hown : s.vm.findClass "java/lang/String" = some m.cls := findClass_of_methodNamed Bd.named
  have hnm := (name_of_methodNamed Bd.named Bd.method).1
  have X0 : Stand p l e ({ frames := 2, cells := 1, slots := 1, locals := 35 } : Room) s m #[(.ref oo), (.ref ar), (.int (0 : Int32)), (.int (1 : Int32)), .null] below meth c s₁ [] 0 0 := Stand.of_body Bd
  have e0 : s₁.heap = h0 := by rw [← hh, Bd.state]; rfl
  have N0 := Fr.nil n0
  have K0 : Keep h0 h0 [oo] := Keep.refl h0 _
  refine own_go (B := s₁.setTop (mkF m 0 #[.val (.ref oo), .val (.ref ar), .val (.int (0 : Int32)), .val (.int (1 : Int32)), .val .null, .unset] [])) (fun t k => castTop (efiniV_1 m oo ar) k) ?_
  refine own_go (B := s₁.setTop (mkF m 1 #[.val (.ref oo), .val (.ref ar), .val (.int (0 : Int32)), .val (.int (1 : Int32)), .val .null, .unset] [(.ref oo)])) (fun t k => ?_) ?_
  · refine XS.aloadN X0.here hx rfl (hb hby d3_0) rfl rfl ?_
    exact k
  obtain ⟨T13, X13, e13, st13⟩ := initO X0 hx hZ hown (own_w hw 21 rfl) (own_w hw 22 rfl) (own_w hw 23 rfl) e0 (g := (mkF m 1 #[.val (.ref oo), .val (.ref ar), .val (.int (0 : Int32)), .val (.int (1 : Int32)), .val .null, .unset] [(.ref oo)])) rfl (by rw [hml]; rfl) rfl (hb hby d3_1) (by decide) (W := 0) (by show 2 * 0 + _ ≤ _; exact Nat.le_of_eq rfl) (by decide)
  refine own_go st13 ?_
  refine own_go (B := T13.setTop (mkF m 27 #[.val (.ref oo), .val (.ref ar), .val (.int (0 : Int32)), .val (.int (1 : Int32)), .val .null, .unset] [])) (fun t k => ?_) ?_
  · refine XS.iloadN X13.here hx rfl (hb hby d3_4) rfl ?_
    refine XS.ifYes X13.here hx rfl (pc0 := 5) (pc' := 27) rfl (hb hby d3_5) rfl ((if0 _ _).trans (feq (by decide : ¬ ((1 : Int32) = (0 : Int32)))).2) (by decide) (by decide) ?_
    exact k
  obtain ⟨T15, X15, e15, st15⟩ := getS2 X13 hx hZ hown (host := "") (Or.inl (own_w hw 24 rfl)) Via.refl e13 P4 (g := (mkF m 27 #[.val (.ref oo), .val (.ref ar), .val (.int (0 : Int32)), .val (.int (1 : Int32)), .val .null, .unset] [])) rfl (hb hby d3_27)
  refine own_go st15 ?_
  have hc30_16 : ¬ (cs = (0 : Int32)) := hcs
  refine own_go (B := T15.setTop (mkF m 36 #[.val (.ref oo), .val (.ref ar), .val (.int (0 : Int32)), .val (.int (1 : Int32)), .val .null, .unset] [(.int (1 : Int32)), (.int (0 : Int32)), (.ref ar)])) (fun t k => ?_) ?_
  · refine XS.ifNo X15.here hx rfl (hb hby d3_30) rfl ((if0 _ _).trans (feq hc30_16).1) ?_
    refine XS.aloadN X15.here hx rfl (hb hby d3_33) rfl rfl ?_
    refine XS.iloadN X15.here hx rfl (hb hby d3_34) rfl ?_
    refine XS.iloadN X15.here hx rfl (hb hby d3_35) rfl ?_
    exact k
  obtain ⟨_, _, ⟨T17, L17, k17, n17⟩, -, X17, ⟨Lc17, hQ17, l17, y17, z17⟩, st17⟩ := Jvm.LawKit.callS X15 hx (y := (⟨"java/lang/StringUTF16", "compress", "([CII)[B"⟩ : MethodName)) hown (mvT hZ (own_w hw 25 rfl)) (mvT hZ (own_w hw 26 rfl)) (mvT hZ (own_w hw 27 rfl)) (mvT hZ (own_w hw 28 rfl)) (by decide) (backOf (W := 0) (cmp3_1 l Z a0 hw [] ar ka c0 h0 n0 Z0 P3 hc0) hZ (own_w hw 28 rfl) (own_w hw 27 rfl) (by decide) (by decide)) (g := (mkF m 36 #[.val (.ref oo), .val (.ref ar), .val (.int (0 : Int32)), .val (.int (1 : Int32)), .val .null, .unset] [(.int (1 : Int32)), (.int (0 : Int32)), (.ref ar)])) rfl (by rw [hml]; rfl) (argsL := [(.ref ar), (.int (0 : Int32)), (.int (1 : Int32))]) (rest := []) (lenOf pd_1 rfl) rfl (by show 2 * 0 + _ ≤ _; exact Nat.le_of_eq rfl) (hb hby d3_36) (fun _ _ => ⟨rfl, e15, (by decide : 0 + 1 ≤ _), (by decide : 0 + 1 ≤ _)⟩)
  dsimp only [Pt.U, Pt.locs, Pt.cells, Pt.slots] at X17 l17 y17 z17 st17 hQ17
  subst l17 y17 z17
  obtain ⟨br_17, kb_17, rfl, Nq17, Kq17, sq_br_17, U17_0⟩ := hQ17
  have ne_ar_br_17 : ar ≠ br_17 := Nat.ne_of_lt (Nat.lt_of_lt_of_le P3.lt sq_br_17)
  have ne_oo_br_17 : oo ≠ br_17 := Nat.ne_of_lt (Nat.lt_of_lt_of_le P0.lt sq_br_17)
  have low_br_17 : n0 ≤ br_17 := Nat.le_trans Z0 sq_br_17
  have sz_br_17 : h0.size ≤ br_17 := Nat.le_trans K0.1 sq_br_17
  have Q18 : Exa Z T17.heap oo "java/lang/String" := P0.keep Kq17
  have Q19 : Fld Z T17.heap oo "java/lang/String" "value" "[B" .null := P1.keep Kq17 nin0
  have Q20 : Fld Z T17.heap oo "java/lang/String" "coder" "B" (.int (0 : Int32)) := P2.keep Kq17 nin0
  have Q21 : Arv Z T17.heap ar ka .char (1 : Int32) [(.int c0)] (.int (0 : Int32)) := P3.keep Kq17 nin0
  have Q22 : Sta Z T17.heap "java/lang/String" "COMPACT_STRINGS" "Z" (.int cs) := own_staK P4 Kq17 ns0
  have Z17 : n0 ≤ T17.heap.size := Nat.le_trans Z0 Kq17.1
  have K17 : Keep h0 T17.heap [oo] := K0.trans Kq17 all0
  have N17 := Fr.app N0 Nq17
  refine own_go (B := T17.setTop (mkF m 39 #[.val (.ref oo), .val (.ref ar), .val (.int (0 : Int32)), .val (.int (1 : Int32)), .val .null, .unset] [(.ref br_17)])) st17 ?_
  refine own_go (B := T17.setTop (mkF m 45 #[.val (.ref oo), .val (.ref ar), .val (.int (0 : Int32)), .val (.int (1 : Int32)), .val .null, .val (.ref br_17)] [(.int (1 : Int32)), (.ref br_17), (.ref oo)])) (fun t k => ?_) ?_
  · refine XS.astore X17.here hx rfl (hb hby d3_39) rfl rfl (l' := #[.val (.ref oo), .val (.ref ar), .val (.int (0 : Int32)), .val (.int (1 : Int32)), .val .null, .val (.ref br_17)]) rfl ?_
    refine XS.aloadN X17.here hx rfl (hb hby d3_41) rfl rfl ?_
    refine XS.aload X17.here hx rfl (hb hby d3_42) rfl rfl ?_
    refine XS.iloadN X17.here hx rfl (hb hby d3_44) rfl ?_
    exact k
  obtain ⟨_, _, ⟨T23, L23, k23, n23⟩, -, X23, ⟨Lc23, hQ23, l23, y23, z23⟩, st23⟩ := Jvm.LawKit.callS X17 hx (y := (⟨"java/lang/StringUTF16", "coderFromArrayLen", "([BI)B"⟩ : MethodName)) hown (mvT hZ (own_w hw 32 rfl)) (mvT hZ (own_w hw 33 rfl)) (mvT hZ (own_w hw 27 rfl)) (mvT hZ (own_w hw 34 rfl)) (by decide) (backOf (W := 1) (cfal_1 l Z a0 hw [] br_17 kb_17 (c0.toInt8.toInt32.toInt8.toInt32) T17.heap n0 Z17 U17_0) hZ (own_w hw 34 rfl) (own_w hw 27 rfl) (by decide) (by decide)) (g := (mkF m 45 #[.val (.ref oo), .val (.ref ar), .val (.int (0 : Int32)), .val (.int (1 : Int32)), .val .null, .val (.ref br_17)] [(.int (1 : Int32)), (.ref br_17), (.ref oo)])) rfl (by rw [hml]; rfl) (argsL := [(.ref br_17), (.int (1 : Int32))]) (rest := [(.ref oo)]) (lenOf pd_2 rfl) rfl (by show 2 * 0 + _ ≤ _; exact Nat.le_of_eq rfl) (hb hby d3_45) (fun _ _ => ⟨rfl, rfl, (by decide : 1 + 0 ≤ _), (by decide : 1 + 0 ≤ _)⟩)
  dsimp only [Pt.U, Pt.locs, Pt.cells, Pt.slots] at X23 l23 y23 z23 st23 hQ23
  subst l23 y23 z23
  obtain ⟨rfl, Nq23, e23⟩ := hQ23
  have N23 := Fr.app N17 Nq23
  refine own_go (B := T23.setTop (mkF m 48 #[.val (.ref oo), .val (.ref ar), .val (.int (0 : Int32)), .val (.int (1 : Int32)), .val .null, .val (.ref br_17)] [(.int (nar .byte ((0 : Int32).toInt8.toInt32))), (.ref oo)])) st23 ?_
  obtain ⟨T24, h24, X24, e24, W24, st24⟩ := putFN (v' := (.int (nar .byte (nar .byte ((0 : Int32).toInt8.toInt32))))) X23 hx hZ hown (own_w hw 35 rfl) Via.refl e23 Q20 Q18 (Or.inr ⟨(own_w hw 9 rfl), rfl, hnm⟩) (own_w hw 6 rfl) (ty := .byte) (by decide) rfl (fits_nar_byte _) (g := (mkF m 48 #[.val (.ref oo), .val (.ref ar), .val (.int (0 : Int32)), .val (.int (1 : Int32)), .val .null, .val (.ref br_17)] [(.int (nar .byte ((0 : Int32).toInt8.toInt32))), (.ref oo)])) rfl rfl (hb hby d3_48)
  have Q25 : Exa Z h24 oo "java/lang/String" := Q18.wr W24
  have Q26 : Fld Z h24 oo "java/lang/String" "value" "[B" .null := Q19.other W24 (Or.inr (slot_ne (Or.inr (own_w hw 8 rfl)) (Or.inr (own_w hw 9 rfl)) (by decide) (t := (.array .byte)) (t' := .byte) (by decide) (by decide)))
  have Q27 : Arv Z h24 ar ka .char (1 : Int32) [(.int c0)] (.int (0 : Int32)) := Q21.other W24 (Ne.symm ne_oo_ar)
  have Q28 : Sta Z h24 "java/lang/String" "COMPACT_STRINGS" "Z" (.int cs) := Q22.wr W24
  have Q29 : Arv Z h24 br_17 kb_17 .byte (1 : Int32) [(.int (c0.toInt8.toInt32.toInt8.toInt32))] (.int (0 : Int32)) := U17_0.other W24 (Ne.symm ne_oo_br_17)
  have U24 : Fld Z h24 oo "java/lang/String" "coder" "B" (.int (nar .byte (nar .byte ((0 : Int32).toInt8.toInt32)))) := Q20.same W24
  have Z24 : n0 ≤ h24.size := Nat.le_trans Z17 (Keep.of_wr W24).1
  have N24 := Fr.snoc X24 N23 g_oo
  have K24 := K17.wr W24 (Or.inl (List.mem_of_getElem? (i := 0) rfl))
  refine own_go st24 ?_
  refine own_go (B := T24.setTop (mkF m 54 #[.val (.ref oo), .val (.ref ar), .val (.int (0 : Int32)), .val (.int (1 : Int32)), .val .null, .val (.ref br_17)] [(.ref br_17), (.ref oo)])) (fun t k => ?_) ?_
  · refine XS.aloadN X24.here hx rfl (hb hby d3_51) rfl rfl ?_
    refine XS.aload X24.here hx rfl (hb hby d3_52) rfl rfl ?_
    exact k
  obtain ⟨T30, h30, X30, e30, W30, st30⟩ := putF X24 hx hZ hown (host := "") (Or.inl (own_w hw 36 rfl)) Via.refl e24 Q26 Q25 (Or.inr ⟨(own_w hw 8 rfl), rfl, hnm⟩) (own_w hw 6 rfl) (ty := (.array .byte)) (by decide) rfl rfl (g := (mkF m 54 #[.val (.ref oo), .val (.ref ar), .val (.int (0 : Int32)), .val (.int (1 : Int32)), .val .null, .val (.ref br_17)] [(.ref br_17), (.ref oo)])) rfl rfl (hb hby d3_54)
  have Q31 : Exa Z h30 oo "java/lang/String" := Q25.wr W30
  have Q32 : Arv Z h30 ar ka .char (1 : Int32) [(.int c0)] (.int (0 : Int32)) := Q27.other W30 (Ne.symm ne_oo_ar)
  have Q33 : Sta Z h30 "java/lang/String" "COMPACT_STRINGS" "Z" (.int cs) := Q28.wr W30
  have Q34 : Arv Z h30 br_17 kb_17 .byte (1 : Int32) [(.int (c0.toInt8.toInt32.toInt8.toInt32))] (.int (0 : Int32)) := Q29.other W30 (Ne.symm ne_oo_br_17)
  have Q35 : Fld Z h30 oo "java/lang/String" "coder" "B" (.int (nar .byte (nar .byte ((0 : Int32).toInt8.toInt32)))) := U24.other W30 (Or.inr (slot_ne (Or.inr (own_w hw 9 rfl)) (Or.inr (own_w hw 8 rfl)) (by decide) (t := .byte) (t' := (.array .byte)) (by decide) (by decide)))
  have U30 : Fld Z h30 oo "java/lang/String" "value" "[B" (.ref br_17) := Q26.same W30
  have Z30 : n0 ≤ h30.size := Nat.le_trans Z24 (Keep.of_wr W30).1
  have N30 := Fr.snoc X30 N24 g_oo
  have K30 := K24.wr W30 (Or.inl (List.mem_of_getElem? (i := 0) rfl))
  refine own_go st30 ?_
  obtain ⟨fs, hr, hrun, hended, hW, hsame⟩ := X30.leave (v := none) (fun _ => rfl)
  refine ⟨_, _, ?_, hrun, hended, _, _, rfl, ?_, ⟨_, rfl⟩, hW, hsame.mono (by decide) (by decide)⟩
  · show Steps p.tables e below (T30.setTop (mkF m 57 #[.val (.ref oo), .val (.ref ar), .val (.int (0 : Int32)), .val (.int (1 : Int32)), .val .null, .val (.ref br_17)] [])) _
    exact X30.returnOut hx Bd.returns (hb hby d3_57) hr
  · show QiniV_1 Z oo ar ka c0 cs h0 n0 _ T30.heap _
    rw [e30]
    exact ⟨rfl, N30, K30⟩
def QiniC_1 (Z : State) (oo : Addr) (ar : Addr) (ka : ClassId) (c0 : Int32) (cs : Int32) (h0 : Heap) (n0 : Nat) (v : Option Value) (h : Heap) (L : List Loc) : Prop := v = none ∧ Fr n0 L ∧ Keep h0 h [oo]
theorem efiniC_1 (m : MethodId) (x0 : Addr) (x1 : Addr) : entryFrame m #[(.ref x0), (.ref x1)] 2 = mkF m 0 #[.val (.ref x0), .val (.ref x1)] [] := by first | (simp [entryFrame, mkF, argsToLocals, Value.category]; done) | rfl
set_option maxRecDepth 65536 in
set_option maxHeartbeats 40000000 in
theorem iniC_1 (l : Launch) (Z : State) (a0 : Array Value) (hw : ∀ d ∈ tables_1, d.before a0 Z = true) (ws : List Jvm.Cond) (oo : Addr) (ar : Addr) (ka : ClassId) (c0 : Int32) (cs : Int32) (h0 : Heap) (n0 : Nat) (Z0 : n0 ≤ h0.size) (P0 : Exa Z h0 oo "java/lang/String") (P1 : Fld Z h0 oo "java/lang/String" "value" "[B" .null) (P2 : Fld Z h0 oo "java/lang/String" "coder" "B" (.int (0 : Int32))) (P3 : Arv Z h0 ar ka .char (1 : Int32) [(.int c0)] (.int (0 : Int32))) (P4 : Sta Z h0 "java/lang/String" "COMPACT_STRINGS" "Z" (.int cs)) (g_oo : n0 ≤ oo) (ne_oo_ar : oo ≠ ar) (hc0 : ¬ ((255 : Int32) < c0)) (hcs : cs ≠ (0 : Int32)) :
    MetFree l (⟨"java/lang/String", "<init>", "([C)V"⟩ : MethodName) (head1 (Jvm.Cond.code (⟨"java/lang/String", "<init>", "([C)V"⟩ : MethodName) jdk_42_method_3_code 2 none :: ws) ({ frames := 3, cells := 1, slots := 1, locals := 52 } : Room)) (fun a U => a = #[(.ref oo), (.ref ar)] ∧ Z.Warmed39 U.vm ∧ U.heap = h0) (fun _ _ _ _ _ => True) (fun _ U o U' => ∃ v L, o = .returned v ∧ QiniC_1 Z oo ar ka c0 cs h0 n0 v U'.heap L ∧ FrameEnd U o U' L ({ frames := 3, cells := 1, slots := 1, locals := 52 } : Room).cells ({ frames := 3, cells := 1, slots := 1, locals := 52 } : Room).slots) := by
  refine MetFree.of_bodySF (plainFor_of_name pn_1) hisR ?_
  intro p e s m args below meth c s₁ Bd hml0 hP hK
  obtain ⟨rfl, hZ, hh⟩ := hP
  have hx := Bd.exec
  have hby := Bd.bytes
  have hml : c.maxLocals = 2 := hml0
  have hown : s.vm.findClass "java/lang/String" = some m.cls := findClass_of_methodNamed Bd.named
  have hnm := (name_of_methodNamed Bd.named Bd.method).1
  have X0 : Stand p l e ({ frames := 3, cells := 1, slots := 1, locals := 52 } : Room) s m #[(.ref oo), (.ref ar)] below meth c s₁ [] 0 0 := Stand.of_body Bd
  have e0 : s₁.heap = h0 := by rw [← hh, Bd.state]; rfl
  have N0 := Fr.nil n0
  have K0 : Keep h0 h0 [oo] := Keep.refl h0 _
  refine own_go (B := s₁.setTop (mkF m 0 #[.val (.ref oo), .val (.ref ar)] [])) (fun t k => castTop (efiniC_1 m oo ar) k) ?_
  refine own_go (B := s₁.setTop (mkF m 4 #[.val (.ref oo), .val (.ref ar)] [(.ref ar), (.int (0 : Int32)), (.ref ar), (.ref oo)])) (fun t k => ?_) ?_
  · refine XS.aloadN X0.here hx rfl (hb hby d2_0) rfl rfl ?_
    refine XS.aloadN X0.here hx rfl (hb hby d2_1) rfl rfl ?_
    refine XS.iconst X0.here hx rfl (hb hby d2_2) ?_
    refine XS.aloadN X0.here hx rfl (hb hby d2_3) rfl rfl ?_
    exact k
  obtain ⟨cl36, Ar36, q36, S36, M36, Ha36, G36⟩ := id P3
  refine own_go (B := s₁.setTop (mkF m 5 #[.val (.ref oo), .val (.ref ar)] [(.int (1 : Int32)), (.int (0 : Int32)), (.ref ar), (.ref oo)])) (fun t k => ?_) ?_
  · refine X0.arraylength hx (by rw [e0]; exact Ar36.1) (State.isArrayOf_alike hZ.alike Ar36.2.1) (g := (mkF m 4 #[.val (.ref oo), .val (.ref ar)] [(.ref ar), (.int (0 : Int32)), (.ref ar), (.ref oo)])) rfl rfl (hb hby d2_4) _ ?_
    rw [len_of S36 M36]
    exact k
  refine own_go (B := s₁.setTop (mkF m 6 #[.val (.ref oo), .val (.ref ar)] [.null, (.int (1 : Int32)), (.int (0 : Int32)), (.ref ar), (.ref oo)])) (fun t k => ?_) ?_
  · refine XS.aconstNull X0.here hx rfl (hb hby d2_5) ?_
    exact k
  obtain ⟨_, _, ⟨T37, L37, k37, n37⟩, -, X37, ⟨Lc37, hQ37, l37, y37, z37⟩, st37⟩ := X0.specialBack hx (y := (⟨"java/lang/String", "<init>", "([CIILjava/lang/Void;)V"⟩ : MethodName)) rfl hown (mvT hZ (own_w hw 17 rfl)) (mvT hZ (own_w hw 18 rfl)) (mvT hZ (own_w hw 20 rfl)) (by decide) (backOf (W := 0) (iniV_1 l Z a0 hw [] oo ar ka c0 cs h0 n0 Z0 P0 P1 P2 P3 P4 g_oo ne_oo_ar hc0 hcs) hZ (own_w hw 20 rfl) (own_w hw 5 rfl) (by decide) (by decide)) (g := (mkF m 6 #[.val (.ref oo), .val (.ref ar)] [.null, (.int (1 : Int32)), (.int (0 : Int32)), (.ref ar), (.ref oo)])) rfl (by rw [hml]; rfl) (Steps.refl _) (a := oo) (argsL := [(.ref ar), (.int (0 : Int32)), (.int (1 : Int32)), .null]) (rest := []) (lenOf pd_3 rfl) rfl (by show 2 * 0 + _ ≤ _; exact Nat.le_of_eq rfl) (hb hby d2_6) (fun _ _ => ⟨rfl, e0, (by decide : 0 + 1 ≤ _), (by decide : 0 + 1 ≤ _)⟩)
  dsimp only [Pt.U, Pt.locs, Pt.cells, Pt.slots] at X37 l37 y37 z37 st37 hQ37
  subst l37 y37 z37
  obtain ⟨rfl, Nq37, Kq37⟩ := hQ37
  have Q38 : Exa Z T37.heap oo "java/lang/String" := P0.keep Kq37
  have Q39 : Arv Z T37.heap ar ka .char (1 : Int32) [(.int c0)] (.int (0 : Int32)) := P3.keep Kq37 (ninS (Ne.symm ne_oo_ar) nin0)
  have Q40 : Sta Z T37.heap "java/lang/String" "COMPACT_STRINGS" "Z" (.int cs) := own_staK P4 Kq37 (nsS (own_nsE P0) ns0)
  have Z37 : n0 ≤ T37.heap.size := Nat.le_trans Z0 Kq37.1
  have K37 : Keep h0 T37.heap [oo] := K0.trans Kq37 (allS (Or.inl (List.mem_of_getElem? (i := 0) rfl)) all0)
  have N37 := Fr.app N0 Nq37
  refine own_go (B := T37.setTop (mkF m 9 #[.val (.ref oo), .val (.ref ar)] [])) (fun t k => st37.trans k) ?_
  obtain ⟨fs, hr, hrun, hended, hW, hsame⟩ := X37.leave (v := none) (fun _ => rfl)
  refine ⟨_, _, ?_, hrun, hended, _, _, rfl, ?_, ⟨_, rfl⟩, hW, hsame.mono (by decide) (by decide)⟩
  · show Steps p.tables e below (T37.setTop (mkF m 9 #[.val (.ref oo), .val (.ref ar)] [])) _
    exact X37.returnOut hx Bd.returns (hb hby d2_9) hr
  · show QiniC_1 Z oo ar ka c0 cs h0 n0 _ T37.heap _
    skip
    exact ⟨rfl, N37, K37⟩
def Qcmp5_2 (Z : State) (ar : Addr) (br : Addr) (ka : ClassId) (kb : ClassId) (c0 : Int32) (c1 : Int32) (h0 : Heap) (n0 : Nat) (v : Option Value) (h : Heap) (L : List Loc) : Prop := v = some (.int (2 : Int32)) ∧ Fr n0 L ∧ Keep h0 h [br] ∧ Arv Z h br kb .byte (2 : Int32) [(.int (c0.toInt8.toInt32.toInt8.toInt32)), (.int (c1.toInt8.toInt32.toInt8.toInt32))] (.int (0 : Int32))
theorem efcmp5_2 (m : MethodId) (x0 : Addr) (x2 : Addr) : entryFrame m #[(.ref x0), (.int (0 : Int32)), (.ref x2), (.int (0 : Int32)), (.int (2 : Int32))] 7 = mkF m 0 #[.val (.ref x0), .val (.int (0 : Int32)), .val (.ref x2), .val (.int (0 : Int32)), .val (.int (2 : Int32)), .unset, .unset] [] := by first | (simp [entryFrame, mkF, argsToLocals, Value.category]; done) | rfl
set_option maxRecDepth 65536 in
set_option maxHeartbeats 40000000 in
theorem cmp5_2 (l : Launch) (Z : State) (a0 : Array Value) (hw : ∀ d ∈ tables_1, d.before a0 Z = true) (ws : List Jvm.Cond) (ar : Addr) (br : Addr) (ka : ClassId) (kb : ClassId) (c0 : Int32) (c1 : Int32) (h0 : Heap) (n0 : Nat) (Z0 : n0 ≤ h0.size) (P0 : Arv Z h0 ar ka .char (2 : Int32) [(.int c0), (.int c1)] (.int (0 : Int32))) (P1 : Arv Z h0 br kb .byte (2 : Int32) [(.int (0 : Int32)), (.int (0 : Int32))] (.int (0 : Int32))) (g_br : n0 ≤ br) (ne_ar_br : ar ≠ br) (hc0 : ¬ ((255 : Int32) < c0)) (hc1 : ¬ ((255 : Int32) < c1)) :
    MetFree l (⟨"java/lang/StringUTF16", "compress", "([CI[BII)I"⟩ : MethodName) (head1 (Jvm.Cond.code (⟨"java/lang/StringUTF16", "compress", "([CI[BII)I"⟩ : MethodName) jdk_52_method_21_code 7 (some .int) :: ws) ({ frames := 0, cells := 0, slots := 0, locals := 0 } : Room)) (fun a U => a = #[(.ref ar), (.int (0 : Int32)), (.ref br), (.int (0 : Int32)), (.int (2 : Int32))] ∧ Z.Warmed39 U.vm ∧ U.heap = h0) (fun _ _ _ _ _ => True) (fun _ U o U' => ∃ v L, o = .returned v ∧ Qcmp5_2 Z ar br ka kb c0 c1 h0 n0 v U'.heap L ∧ FrameEnd U o U' L ({ frames := 0, cells := 0, slots := 0, locals := 0 } : Room).cells ({ frames := 0, cells := 0, slots := 0, locals := 0 } : Room).slots) := by
  refine MetFree.of_bodySF (plainFor_of_name pn_0) hisR ?_
  intro p e s m args below meth c s₁ Bd hml0 hP hK
  obtain ⟨rfl, hZ, hh⟩ := hP
  have hx := Bd.exec
  have hby := Bd.bytes
  have hml : c.maxLocals = 7 := hml0
  have hown : s.vm.findClass "java/lang/StringUTF16" = some m.cls := findClass_of_methodNamed Bd.named
  have hnm := (name_of_methodNamed Bd.named Bd.method).1
  have X0 : Stand p l e ({ frames := 0, cells := 0, slots := 0, locals := 0 } : Room) s m #[(.ref ar), (.int (0 : Int32)), (.ref br), (.int (0 : Int32)), (.int (2 : Int32))] below meth c s₁ [] 0 0 := Stand.of_body Bd
  have e0 : s₁.heap = h0 := by rw [← hh, Bd.state]; rfl
  have N0 := Fr.nil n0
  have K0 : Keep h0 h0 [br] := Keep.refl h0 _
  refine own_go (B := s₁.setTop (mkF m 0 #[.val (.ref ar), .val (.int (0 : Int32)), .val (.ref br), .val (.int (0 : Int32)), .val (.int (2 : Int32)), .unset, .unset] [])) (fun t k => castTop (efcmp5_2 m ar br) k) ?_
  refine own_go (B := s₁.setTop (mkF m 12 #[.val (.ref ar), .val (.int (0 : Int32)), .val (.ref br), .val (.int (0 : Int32)), .val (.int (2 : Int32)), .val (.int (0 : Int32)), .unset] [(.int (0 : Int32)), (.ref ar)])) (fun t k => ?_) ?_
  · refine XS.iconst X0.here hx rfl (hb hby d6_0) ?_
    refine XS.istore X0.here hx rfl (hb hby d6_1) rfl (l' := #[.val (.ref ar), .val (.int (0 : Int32)), .val (.ref br), .val (.int (0 : Int32)), .val (.int (2 : Int32)), .val (.int (0 : Int32)), .unset]) rfl ?_
    refine XS.iload X0.here hx rfl (hb hby d6_3) rfl ?_
    refine XS.iload X0.here hx rfl (hb hby d6_5) rfl ?_
    refine XS.icmpNo X0.here hx rfl (hb hby d6_7) rfl (tlt (by decide : ((0 : Int32) < (2 : Int32)))).2.1 ?_
    refine XS.aloadN X0.here hx rfl (hb hby d6_10) rfl rfl ?_
    refine XS.iloadN X0.here hx rfl (hb hby d6_11) rfl ?_
    exact k
  obtain ⟨cl42, Ar42, q42, S42, M42, Ha42, G42⟩ := id P0
  have hin42 : ¬ ((0 : Int32) < 0 ∨ cl42.slots.size ≤ ((0 : Int32)).toNatClampNeg) := inb_of S42 ⟨by decide, by decide⟩
  refine own_go (X0.caload hx (j := (0 : Int32)) (v := (.int c0)) (by rw [e0]; exact Ar42.1) (State.isArrayOf_alike hZ.alike Ar42.2.1) Ar42.2.2 hin42 (Has.at Ha42 hin42 rfl) (g := (mkF m 12 #[.val (.ref ar), .val (.int (0 : Int32)), .val (.ref br), .val (.int (0 : Int32)), .val (.int (2 : Int32)), .val (.int (0 : Int32)), .unset] [(.int (0 : Int32)), (.ref ar)])) rfl rfl (hb hby d6_12)) ?_
  refine own_go (B := s₁.setTop (mkF m 20 #[.val (.ref ar), .val (.int (0 : Int32)), .val (.ref br), .val (.int (0 : Int32)), .val (.int (2 : Int32)), .val (.int (0 : Int32)), .val (.int c0)] [(.int (255 : Int32)), (.int c0)])) (fun t k => ?_) ?_
  · refine XS.istore X0.here hx rfl (hb hby d6_13) rfl (l' := #[.val (.ref ar), .val (.int (0 : Int32)), .val (.ref br), .val (.int (0 : Int32)), .val (.int (2 : Int32)), .val (.int (0 : Int32)), .val (.int c0)]) rfl ?_
    refine XS.iload X0.here hx rfl (hb hby d6_15) rfl ?_
    refine XS.sipush X0.here hx rfl (hb hby d6_17) ?_
    exact k
  have hc20_43 : ¬ ((255 : Int32) < c0) := hc0
  refine own_go (B := s₁.setTop (mkF m 31 #[.val (.ref ar), .val (.int (0 : Int32)), .val (.ref br), .val (.int (0 : Int32)), .val (.int (2 : Int32)), .val (.int (0 : Int32)), .val (.int c0)] [(.int (c0.toInt8.toInt32)), (.int (0 : Int32)), (.ref br)])) (fun t k => ?_) ?_
  · refine XS.icmpYes X0.here hx rfl (pc0 := 20) (pc' := 26) rfl (hb hby d6_20) rfl (flt hc20_43).2.2.2 (by decide) (by decide) ?_
    refine XS.aloadN X0.here hx rfl (hb hby d6_26) rfl rfl ?_
    refine XS.iloadN X0.here hx rfl (hb hby d6_27) rfl ?_
    refine XS.iload X0.here hx rfl (hb hby d6_28) rfl ?_
    refine XS.i2b X0.here hx rfl (hb hby d6_30) rfl ?_
    exact k
  obtain ⟨cl44, Ar44, q44, S44, M44, Ha44, G44⟩ := P1
  have hin44 : ¬ ((0 : Int32) < 0 ∨ cl44.slots.size ≤ ((0 : Int32)).toNatClampNeg) := inb_of S44 ⟨by decide, by decide⟩
  obtain ⟨T44, h44, X44, e44, W44, st44⟩ := stB X0 hx hZ e0 Ar44 (j := (0 : Int32)) hin44 (g := (mkF m 31 #[.val (.ref ar), .val (.int (0 : Int32)), .val (.ref br), .val (.int (0 : Int32)), .val (.int (2 : Int32)), .val (.int (0 : Int32)), .val (.int c0)] [(.int (c0.toInt8.toInt32)), (.int (0 : Int32)), (.ref br)])) rfl rfl (hb hby d6_31)
  have Q45 : Arv Z h44 ar ka .char (2 : Int32) [(.int c0), (.int c1)] (.int (0 : Int32)) := P0.other W44 ne_ar_br
  have U44 : Arv Z h44 br kb .byte (2 : Int32) [(.int ((c0.toInt8.toInt32).toInt8.toInt32)), (.int (0 : Int32))] (.int (0 : Int32)) := Arv.set Ar44 q44 S44 M44 Ha44 G44 (fits_nar_byte _) W44 0 rfl (Nat.le_of_ble_eq_true rfl)
  have Z44 : n0 ≤ h44.size := Nat.le_trans Z0 (Keep.of_wr W44).1
  have N44 := Fr.snoc X44 N0 g_br
  have K44 := K0.wr W44 (Or.inl (List.mem_of_getElem? (i := 0) rfl))
  refine own_go st44 ?_
  refine own_go (B := T44.setTop (mkF m 12 #[.val (.ref ar), .val (.int (1 : Int32)), .val (.ref br), .val (.int (1 : Int32)), .val (.int (2 : Int32)), .val (.int (1 : Int32)), .val (.int c0)] [(.int (1 : Int32)), (.ref ar)])) (fun t k => ?_) ?_
  · refine XS.iinc X44.here hx rfl (hb hby d6_32) rfl (l' := #[.val (.ref ar), .val (.int (1 : Int32)), .val (.ref br), .val (.int (0 : Int32)), .val (.int (2 : Int32)), .val (.int (0 : Int32)), .val (.int c0)]) rfl ?_
    refine XS.iinc X44.here hx rfl (hb hby d6_35) rfl (l' := #[.val (.ref ar), .val (.int (1 : Int32)), .val (.ref br), .val (.int (1 : Int32)), .val (.int (2 : Int32)), .val (.int (0 : Int32)), .val (.int c0)]) rfl ?_
    refine XS.iinc X44.here hx rfl (hb hby d6_38) rfl (l' := #[.val (.ref ar), .val (.int (1 : Int32)), .val (.ref br), .val (.int (1 : Int32)), .val (.int (2 : Int32)), .val (.int (1 : Int32)), .val (.int c0)]) rfl ?_
    refine XS.goto X44.here hx rfl (pc0 := 41) (pc' := 3) rfl (hb hby d6_41) (by decide) (by decide) ?_
    refine XS.iload X44.here hx rfl (hb hby d6_3) rfl ?_
    refine XS.iload X44.here hx rfl (hb hby d6_5) rfl ?_
    refine XS.icmpNo X44.here hx rfl (hb hby d6_7) rfl (tlt (by decide : ((1 : Int32) < (2 : Int32)))).2.1 ?_
    refine XS.aloadN X44.here hx rfl (hb hby d6_10) rfl rfl ?_
    refine XS.iloadN X44.here hx rfl (hb hby d6_11) rfl ?_
    exact k
  obtain ⟨cl47, Ar47, q47, S47, M47, Ha47, G47⟩ := id Q45
  have hin47 : ¬ ((1 : Int32) < 0 ∨ cl47.slots.size ≤ ((1 : Int32)).toNatClampNeg) := inb_of S47 ⟨by decide, by decide⟩
  refine own_go (X44.caload hx (j := (1 : Int32)) (v := (.int c1)) (by rw [e44]; exact Ar47.1) (State.isArrayOf_alike hZ.alike Ar47.2.1) Ar47.2.2 hin47 (Has.at Ha47 hin47 rfl) (g := (mkF m 12 #[.val (.ref ar), .val (.int (1 : Int32)), .val (.ref br), .val (.int (1 : Int32)), .val (.int (2 : Int32)), .val (.int (1 : Int32)), .val (.int c0)] [(.int (1 : Int32)), (.ref ar)])) rfl rfl (hb hby d6_12)) ?_
  refine own_go (B := T44.setTop (mkF m 20 #[.val (.ref ar), .val (.int (1 : Int32)), .val (.ref br), .val (.int (1 : Int32)), .val (.int (2 : Int32)), .val (.int (1 : Int32)), .val (.int c1)] [(.int (255 : Int32)), (.int c1)])) (fun t k => ?_) ?_
  · refine XS.istore X44.here hx rfl (hb hby d6_13) rfl (l' := #[.val (.ref ar), .val (.int (1 : Int32)), .val (.ref br), .val (.int (1 : Int32)), .val (.int (2 : Int32)), .val (.int (1 : Int32)), .val (.int c1)]) rfl ?_
    refine XS.iload X44.here hx rfl (hb hby d6_15) rfl ?_
    refine XS.sipush X44.here hx rfl (hb hby d6_17) ?_
    exact k
  have hc20_48 : ¬ ((255 : Int32) < c1) := hc1
  refine own_go (B := T44.setTop (mkF m 31 #[.val (.ref ar), .val (.int (1 : Int32)), .val (.ref br), .val (.int (1 : Int32)), .val (.int (2 : Int32)), .val (.int (1 : Int32)), .val (.int c1)] [(.int (c1.toInt8.toInt32)), (.int (1 : Int32)), (.ref br)])) (fun t k => ?_) ?_
  · refine XS.icmpYes X44.here hx rfl (pc0 := 20) (pc' := 26) rfl (hb hby d6_20) rfl (flt hc20_48).2.2.2 (by decide) (by decide) ?_
    refine XS.aloadN X44.here hx rfl (hb hby d6_26) rfl rfl ?_
    refine XS.iloadN X44.here hx rfl (hb hby d6_27) rfl ?_
    refine XS.iload X44.here hx rfl (hb hby d6_28) rfl ?_
    refine XS.i2b X44.here hx rfl (hb hby d6_30) rfl ?_
    exact k
  obtain ⟨cl49, Ar49, q49, S49, M49, Ha49, G49⟩ := U44
  have hin49 : ¬ ((1 : Int32) < 0 ∨ cl49.slots.size ≤ ((1 : Int32)).toNatClampNeg) := inb_of S49 ⟨by decide, by decide⟩
  obtain ⟨T49, h49, X49, e49, W49, st49⟩ := stB X44 hx hZ e44 Ar49 (j := (1 : Int32)) hin49 (g := (mkF m 31 #[.val (.ref ar), .val (.int (1 : Int32)), .val (.ref br), .val (.int (1 : Int32)), .val (.int (2 : Int32)), .val (.int (1 : Int32)), .val (.int c1)] [(.int (c1.toInt8.toInt32)), (.int (1 : Int32)), (.ref br)])) rfl rfl (hb hby d6_31)
  have Q50 : Arv Z h49 ar ka .char (2 : Int32) [(.int c0), (.int c1)] (.int (0 : Int32)) := Q45.other W49 ne_ar_br
  have U49 : Arv Z h49 br kb .byte (2 : Int32) [(.int ((c0.toInt8.toInt32).toInt8.toInt32)), (.int ((c1.toInt8.toInt32).toInt8.toInt32))] (.int (0 : Int32)) := Arv.set Ar49 q49 S49 M49 Ha49 G49 (fits_nar_byte _) W49 1 rfl (Nat.le_of_ble_eq_true rfl)
  have Z49 : n0 ≤ h49.size := Nat.le_trans Z44 (Keep.of_wr W49).1
  have N49 := Fr.snoc X49 N44 g_br
  have K49 := K44.wr W49 (Or.inl (List.mem_of_getElem? (i := 0) rfl))
  refine own_go st49 ?_
  refine own_go (B := T49.setTop (mkF m 46 #[.val (.ref ar), .val (.int (2 : Int32)), .val (.ref br), .val (.int (2 : Int32)), .val (.int (2 : Int32)), .val (.int (2 : Int32)), .val (.int c1)] [(.int (2 : Int32))])) (fun t k => ?_) ?_
  · refine XS.iinc X49.here hx rfl (hb hby d6_32) rfl (l' := #[.val (.ref ar), .val (.int (2 : Int32)), .val (.ref br), .val (.int (1 : Int32)), .val (.int (2 : Int32)), .val (.int (1 : Int32)), .val (.int c1)]) rfl ?_
    refine XS.iinc X49.here hx rfl (hb hby d6_35) rfl (l' := #[.val (.ref ar), .val (.int (2 : Int32)), .val (.ref br), .val (.int (2 : Int32)), .val (.int (2 : Int32)), .val (.int (1 : Int32)), .val (.int c1)]) rfl ?_
    refine XS.iinc X49.here hx rfl (hb hby d6_38) rfl (l' := #[.val (.ref ar), .val (.int (2 : Int32)), .val (.ref br), .val (.int (2 : Int32)), .val (.int (2 : Int32)), .val (.int (2 : Int32)), .val (.int c1)]) rfl ?_
    refine XS.goto X49.here hx rfl (pc0 := 41) (pc' := 3) rfl (hb hby d6_41) (by decide) (by decide) ?_
    refine XS.iload X49.here hx rfl (hb hby d6_3) rfl ?_
    refine XS.iload X49.here hx rfl (hb hby d6_5) rfl ?_
    refine XS.icmpYes X49.here hx rfl (pc0 := 7) (pc' := 44) rfl (hb hby d6_7) rfl (flt Int32.lt_irrefl).2.1 (by decide) (by decide) ?_
    refine XS.iload X49.here hx rfl (hb hby d6_44) rfl ?_
    exact k
  obtain ⟨fs, hr, hrun, hended, hW, hsame⟩ := X49.leave (v := some (.int (2 : Int32))) (fun h => by rw [Bd.returns] at h; cases h)
  refine ⟨_, _, ?_, hrun, hended, _, _, rfl, ?_, ⟨_, rfl⟩, hW, hsame.mono (by decide) (by decide)⟩
  · show Steps p.tables e below (T49.setTop (mkF m 46 #[.val (.ref ar), .val (.int (2 : Int32)), .val (.ref br), .val (.int (2 : Int32)), .val (.int (2 : Int32)), .val (.int (2 : Int32)), .val (.int c1)] [(.int (2 : Int32))])) _
    exact retOut X49 hx Bd.returns rfl (Or.inl ⟨rfl, Or.inl rfl, _, rfl⟩) (hb hby d6_46) hr
  · show Qcmp5_2 Z ar br ka kb c0 c1 h0 n0 _ T49.heap _
    rw [e49]
    exact ⟨rfl, N49, K49, U49⟩
def Qcmp3_2 (Z : State) (ar : Addr) (ka : ClassId) (c0 : Int32) (c1 : Int32) (h0 : Heap) (n0 : Nat) (v : Option Value) (h : Heap) (L : List Loc) : Prop := ∃ br : Addr, ∃ kb : ClassId, v = some (.ref br) ∧ Fr n0 L ∧ Keep h0 h [] ∧ h0.size ≤ br ∧ Arv Z h br kb .byte (2 : Int32) [(.int (c0.toInt8.toInt32.toInt8.toInt32)), (.int (c1.toInt8.toInt32.toInt8.toInt32))] (.int (0 : Int32))
theorem efcmp3_2 (m : MethodId) (x0 : Addr) : entryFrame m #[(.ref x0), (.int (0 : Int32)), (.int (2 : Int32))] 6 = mkF m 0 #[.val (.ref x0), .val (.int (0 : Int32)), .val (.int (2 : Int32)), .unset, .unset, .unset] [] := by first | (simp [entryFrame, mkF, argsToLocals, Value.category]; done) | rfl
set_option maxRecDepth 65536 in
set_option maxHeartbeats 40000000 in
theorem cmp3_2 (l : Launch) (Z : State) (a0 : Array Value) (hw : ∀ d ∈ tables_1, d.before a0 Z = true) (ws : List Jvm.Cond) (ar : Addr) (ka : ClassId) (c0 : Int32) (c1 : Int32) (h0 : Heap) (n0 : Nat) (Z0 : n0 ≤ h0.size) (P0 : Arv Z h0 ar ka .char (2 : Int32) [(.int c0), (.int c1)] (.int (0 : Int32))) (hc0 : ¬ ((255 : Int32) < c0)) (hc1 : ¬ ((255 : Int32) < c1)) :
    MetFree l (⟨"java/lang/StringUTF16", "compress", "([CII)[B"⟩ : MethodName) (head1 (Jvm.Cond.code (⟨"java/lang/StringUTF16", "compress", "([CII)[B"⟩ : MethodName) jdk_52_method_16_code 6 (some (.array .byte)) :: ws) ({ frames := 1, cells := 1, slots := 2, locals := 18 } : Room)) (fun a U => a = #[(.ref ar), (.int (0 : Int32)), (.int (2 : Int32))] ∧ Z.Warmed39 U.vm ∧ U.heap = h0) (fun _ _ _ _ _ => True) (fun _ U o U' => ∃ v L, o = .returned v ∧ Qcmp3_2 Z ar ka c0 c1 h0 n0 v U'.heap L ∧ FrameEnd U o U' L ({ frames := 1, cells := 1, slots := 2, locals := 18 } : Room).cells ({ frames := 1, cells := 1, slots := 2, locals := 18 } : Room).slots) := by
  refine MetFree.of_bodySF (plainFor_of_name pn_0) hisR ?_
  intro p e s m args below meth c s₁ Bd hml0 hP hK
  obtain ⟨rfl, hZ, hh⟩ := hP
  have hx := Bd.exec
  have hby := Bd.bytes
  have hml : c.maxLocals = 6 := hml0
  have hown : s.vm.findClass "java/lang/StringUTF16" = some m.cls := findClass_of_methodNamed Bd.named
  have hnm := (name_of_methodNamed Bd.named Bd.method).1
  have X0 : Stand p l e ({ frames := 1, cells := 1, slots := 2, locals := 18 } : Room) s m #[(.ref ar), (.int (0 : Int32)), (.int (2 : Int32))] below meth c s₁ [] 0 0 := Stand.of_body Bd
  have e0 : s₁.heap = h0 := by rw [← hh, Bd.state]; rfl
  have N0 := Fr.nil n0
  have K0 : Keep h0 h0 [] := Keep.refl h0 _
  refine own_go (B := s₁.setTop (mkF m 0 #[.val (.ref ar), .val (.int (0 : Int32)), .val (.int (2 : Int32)), .unset, .unset, .unset] [])) (fun t k => castTop (efcmp3_2 m ar) k) ?_
  refine own_go (B := s₁.setTop (mkF m 1 #[.val (.ref ar), .val (.int (0 : Int32)), .val (.int (2 : Int32)), .unset, .unset, .unset] [(.int (2 : Int32))])) (fun t k => ?_) ?_
  · refine XS.iloadN X0.here hx rfl (hb hby d5_0) rfl ?_
    exact k
  obtain ⟨T52, h52, k52, X52, e52, E52, A52, st52⟩ := newP X0 hx hZ (own_w hw 7 rfl) e0 (g := (mkF m 1 #[.val (.ref ar), .val (.int (0 : Int32)), .val (.int (2 : Int32)), .unset, .unset, .unset] [(.int (2 : Int32))])) rfl (hb hby d5_1) rfl (by decide) (cap := 2) (by decide) (by decide) (by decide) (by decide)
  obtain ⟨b52, g52⟩ : ∃ z, z = h0.size := ⟨_, rfl⟩
  rw [← g52] at A52 st52
  have ne52_ar : ar ≠ b52 := Nat.ne_of_lt (Nat.lt_of_lt_of_le P0.lt (Nat.le_of_eq g52.symm))
  have low52 : n0 ≤ b52 := Nat.le_trans Z0 (Nat.le_of_eq g52.symm)
  have sz52 : h0.size ≤ b52 := Nat.le_trans K0.1 (Nat.le_of_eq g52.symm)
  have Q53 : Arv Z h52 ar ka .char (2 : Int32) [(.int c0), (.int c1)] (.int (0 : Int32)) := P0.ext E52
  have Z52 : n0 ≤ h52.size := Nat.le_trans Z0 E52.1
  have K52 := K0.ext E52
  have V52 : Arv Z h52 b52 k52 .byte (2 : Int32) [(.int (0 : Int32)), (.int (0 : Int32))] (.int (0 : Int32)) := (Arv.new A52 (by decide)).pad (pad_rep [] (.int (0 : Int32)) 2)
  refine own_go st52 ?_
  refine own_go (B := T52.setTop (mkF m 9 #[.val (.ref ar), .val (.int (0 : Int32)), .val (.int (2 : Int32)), .val (.ref b52), .unset, .unset] [(.int (2 : Int32)), (.int (0 : Int32)), (.ref b52), (.int (0 : Int32)), (.ref ar)])) (fun t k => ?_) ?_
  · refine XS.astoreN X52.here hx rfl (hb hby d5_3) rfl rfl (l' := #[.val (.ref ar), .val (.int (0 : Int32)), .val (.int (2 : Int32)), .val (.ref b52), .unset, .unset]) rfl ?_
    refine XS.aloadN X52.here hx rfl (hb hby d5_4) rfl rfl ?_
    refine XS.iloadN X52.here hx rfl (hb hby d5_5) rfl ?_
    refine XS.aloadN X52.here hx rfl (hb hby d5_6) rfl rfl ?_
    refine XS.iconst X52.here hx rfl (hb hby d5_7) ?_
    refine XS.iloadN X52.here hx rfl (hb hby d5_8) rfl ?_
    exact k
  obtain ⟨_, _, ⟨T54, L54, k54, n54⟩, -, X54, ⟨Lc54, hQ54, l54, y54, z54⟩, st54⟩ := Jvm.LawKit.callS X52 hx (y := (⟨"java/lang/StringUTF16", "compress", "([CI[BII)I"⟩ : MethodName)) hown (mvT hZ (own_w hw 29 rfl)) (mvT hZ (own_w hw 30 rfl)) (mvT hZ (own_w hw 27 rfl)) (mvT hZ (own_w hw 31 rfl)) (by decide) (backOf (W := 0) (cmp5_2 l Z a0 hw [] ar b52 ka k52 c0 c1 h52 n0 Z52 Q53 V52 low52 ne52_ar hc0 hc1) hZ (own_w hw 31 rfl) (own_w hw 27 rfl) (by decide) (by decide)) (g := (mkF m 9 #[.val (.ref ar), .val (.int (0 : Int32)), .val (.int (2 : Int32)), .val (.ref b52), .unset, .unset] [(.int (2 : Int32)), (.int (0 : Int32)), (.ref b52), (.int (0 : Int32)), (.ref ar)])) rfl (by rw [hml]; rfl) (argsL := [(.ref ar), (.int (0 : Int32)), (.ref b52), (.int (0 : Int32)), (.int (2 : Int32))]) (rest := []) (lenOf pd_0 rfl) rfl (by show 2 * 0 + _ ≤ _; exact Nat.le_of_eq rfl) (hb hby d5_9) (fun _ _ => ⟨rfl, e52, (by decide : 1 + 0 ≤ _), (by decide : 2 + 0 ≤ _)⟩)
  dsimp only [Pt.U, Pt.locs, Pt.cells, Pt.slots] at X54 l54 y54 z54 st54 hQ54
  subst l54 y54 z54
  obtain ⟨rfl, Nq54, Kq54, U54_0⟩ := hQ54
  have Q55 : Arv Z T54.heap ar ka .char (2 : Int32) [(.int c0), (.int c1)] (.int (0 : Int32)) := Q53.keep Kq54 (ninS ne52_ar nin0)
  have Z54 : n0 ≤ T54.heap.size := Nat.le_trans Z52 Kq54.1
  have K54 : Keep h0 T54.heap [] := K52.trans Kq54 (allS (Or.inr sz52) all0)
  have N54 := Fr.app N0 Nq54
  refine own_go (B := T54.setTop (mkF m 12 #[.val (.ref ar), .val (.int (0 : Int32)), .val (.int (2 : Int32)), .val (.ref b52), .unset, .unset] [(.int (2 : Int32))])) st54 ?_
  refine own_go (B := T54.setTop (mkF m 58 #[.val (.ref ar), .val (.int (0 : Int32)), .val (.int (2 : Int32)), .val (.ref b52), .val (.int (2 : Int32)), .unset] [(.ref b52)])) (fun t k => ?_) ?_
  · refine XS.istore X54.here hx rfl (hb hby d5_12) rfl (l' := #[.val (.ref ar), .val (.int (0 : Int32)), .val (.int (2 : Int32)), .val (.ref b52), .val (.int (2 : Int32)), .unset]) rfl ?_
    refine XS.iload X54.here hx rfl (hb hby d5_14) rfl ?_
    refine XS.iloadN X54.here hx rfl (hb hby d5_16) rfl ?_
    refine XS.icmpYes X54.here hx rfl (pc0 := 17) (pc' := 57) rfl (hb hby d5_17) rfl (teq (rfl : (2 : Int32) = (2 : Int32))).1 (by decide) (by decide) ?_
    refine XS.aloadN X54.here hx rfl (hb hby d5_57) rfl rfl ?_
    exact k
  obtain ⟨fs, hr, hrun, hended, hW, hsame⟩ := X54.leave (v := some (.ref b52)) (fun h => by rw [Bd.returns] at h; cases h)
  refine ⟨_, _, ?_, hrun, hended, _, _, rfl, ?_, ⟨_, rfl⟩, hW, hsame.mono (by decide) (by decide)⟩
  · show Steps p.tables e below (T54.setTop (mkF m 58 #[.val (.ref ar), .val (.int (0 : Int32)), .val (.int (2 : Int32)), .val (.ref b52), .val (.int (2 : Int32)), .unset] [(.ref b52)])) _
    exact retOut X54 hx Bd.returns rfl (Or.inr (Or.inr (Or.inr (Or.inr ⟨rfl, rfl, rfl⟩)))) (hb hby d5_58) hr
  · show Qcmp3_2 Z ar ka c0 c1 h0 n0 _ T54.heap _
    skip
    exact ⟨b52, k52, rfl, N54, K54, sz52, U54_0⟩
def Qcfal_2 (Z : State) (br : Addr) (kb : ClassId) (c0 : Int32) (c1 : Int32) (h0 : Heap) (n0 : Nat) (v : Option Value) (h : Heap) (L : List Loc) : Prop := v = some (.int (nar .byte ((0 : Int32).toInt8.toInt32))) ∧ Fr n0 L ∧ h = h0
theorem efcfal_2 (m : MethodId) (x0 : Addr) : entryFrame m #[(.ref x0), (.int (2 : Int32))] 2 = mkF m 0 #[.val (.ref x0), .val (.int (2 : Int32))] [] := by first | (simp [entryFrame, mkF, argsToLocals, Value.category]; done) | rfl
set_option maxRecDepth 65536 in
set_option maxHeartbeats 40000000 in
theorem cfal_2 (l : Launch) (Z : State) (a0 : Array Value) (hw : ∀ d ∈ tables_1, d.before a0 Z = true) (ws : List Jvm.Cond) (br : Addr) (kb : ClassId) (c0 : Int32) (c1 : Int32) (h0 : Heap) (n0 : Nat) (Z0 : n0 ≤ h0.size) (P0 : Arv Z h0 br kb .byte (2 : Int32) [(.int c0), (.int c1)] (.int (0 : Int32))) :
    MetFree l (⟨"java/lang/StringUTF16", "coderFromArrayLen", "([BI)B"⟩ : MethodName) (head1 (Jvm.Cond.code (⟨"java/lang/StringUTF16", "coderFromArrayLen", "([BI)B"⟩ : MethodName) jdk_52_method_15_code 2 (some .byte) :: ws) ({ frames := 0, cells := 0, slots := 0, locals := 0 } : Room)) (fun a U => a = #[(.ref br), (.int (2 : Int32))] ∧ Z.Warmed39 U.vm ∧ U.heap = h0) (fun _ _ _ _ _ => True) (fun _ U o U' => ∃ v L, o = .returned v ∧ Qcfal_2 Z br kb c0 c1 h0 n0 v U'.heap L ∧ FrameEnd U o U' L ({ frames := 0, cells := 0, slots := 0, locals := 0 } : Room).cells ({ frames := 0, cells := 0, slots := 0, locals := 0 } : Room).slots) := by
  refine MetFree.of_bodySF (plainFor_of_name pn_0) hisR ?_
  intro p e s m args below meth c s₁ Bd hml0 hP hK
  obtain ⟨rfl, hZ, hh⟩ := hP
  have hx := Bd.exec
  have hby := Bd.bytes
  have hml : c.maxLocals = 2 := hml0
  have hown : s.vm.findClass "java/lang/StringUTF16" = some m.cls := findClass_of_methodNamed Bd.named
  have hnm := (name_of_methodNamed Bd.named Bd.method).1
  have X0 : Stand p l e ({ frames := 0, cells := 0, slots := 0, locals := 0 } : Room) s m #[(.ref br), (.int (2 : Int32))] below meth c s₁ [] 0 0 := Stand.of_body Bd
  have e0 : s₁.heap = h0 := by rw [← hh, Bd.state]; rfl
  have N0 := Fr.nil n0
  have K0 : Keep h0 h0 [] := Keep.refl h0 _
  refine own_go (B := s₁.setTop (mkF m 0 #[.val (.ref br), .val (.int (2 : Int32))] [])) (fun t k => castTop (efcfal_2 m br) k) ?_
  refine own_go (B := s₁.setTop (mkF m 2 #[.val (.ref br), .val (.int (2 : Int32))] [(.ref br), (.int (2 : Int32))])) (fun t k => ?_) ?_
  · refine XS.iloadN X0.here hx rfl (hb hby d7_0) rfl ?_
    refine XS.aloadN X0.here hx rfl (hb hby d7_1) rfl rfl ?_
    exact k
  obtain ⟨cl57, Ar57, q57, S57, M57, Ha57, G57⟩ := id P0
  refine own_go (B := s₁.setTop (mkF m 3 #[.val (.ref br), .val (.int (2 : Int32))] [(.int (2 : Int32)), (.int (2 : Int32))])) (fun t k => ?_) ?_
  · refine X0.arraylength hx (by rw [e0]; exact Ar57.1) (State.isArrayOf_alike hZ.alike Ar57.2.1) (g := (mkF m 2 #[.val (.ref br), .val (.int (2 : Int32))] [(.ref br), (.int (2 : Int32))])) rfl rfl (hb hby d7_2) _ ?_
    rw [len_of S57 M57]
    exact k
  refine own_go (B := s₁.setTop (mkF m 8 #[.val (.ref br), .val (.int (2 : Int32))] [(.int ((0 : Int32).toInt8.toInt32))])) (fun t k => ?_) ?_
  · refine XS.isub X0.here hx rfl (hb hby d7_3) rfl ?_
    refine XS.bipush X0.here hx rfl (hb hby d7_4) ?_
    refine XS.iushr X0.here hx rfl (hb hby d7_6) rfl ?_
    refine XS.i2b X0.here hx rfl (hb hby d7_7) rfl ?_
    exact k
  obtain ⟨fs, hr, hrun, hended, hW, hsame⟩ := X0.leave (v := some (.int (nar .byte ((0 : Int32).toInt8.toInt32)))) (fun h => by rw [Bd.returns] at h; cases h)
  refine ⟨_, _, ?_, hrun, hended, _, _, rfl, ?_, ⟨_, rfl⟩, hW, hsame.mono (by decide) (by decide)⟩
  · show Steps p.tables e below (s₁.setTop (mkF m 8 #[.val (.ref br), .val (.int (2 : Int32))] [(.int ((0 : Int32).toInt8.toInt32))])) _
    exact retN X0 hx (t := .byte) Bd.returns (by simp) (hb hby d7_8) hr
  · show Qcfal_2 Z br kb c0 c1 h0 n0 _ s₁.heap _
    rw [e0]
    exact ⟨rfl, N0, rfl⟩
def QiniV_2 (Z : State) (oo : Addr) (ar : Addr) (ka : ClassId) (c0 : Int32) (c1 : Int32) (cs : Int32) (h0 : Heap) (n0 : Nat) (v : Option Value) (h : Heap) (L : List Loc) : Prop := v = none ∧ Fr n0 L ∧ Keep h0 h [oo]
theorem efiniV_2 (m : MethodId) (x0 : Addr) (x1 : Addr) : entryFrame m #[(.ref x0), (.ref x1), (.int (0 : Int32)), (.int (2 : Int32)), .null] 6 = mkF m 0 #[.val (.ref x0), .val (.ref x1), .val (.int (0 : Int32)), .val (.int (2 : Int32)), .val .null, .unset] [] := by first | (simp [entryFrame, mkF, argsToLocals, Value.category]; done) | rfl
set_option maxRecDepth 65536 in
set_option maxHeartbeats 40000000 in
theorem iniV_2 (l : Launch) (Z : State) (a0 : Array Value) (hw : ∀ d ∈ tables_1, d.before a0 Z = true) (ws : List Jvm.Cond) (oo : Addr) (ar : Addr) (ka : ClassId) (c0 : Int32) (c1 : Int32) (cs : Int32) (h0 : Heap) (n0 : Nat) (Z0 : n0 ≤ h0.size) (P0 : Exa Z h0 oo "java/lang/String") (P1 : Fld Z h0 oo "java/lang/String" "value" "[B" .null) (P2 : Fld Z h0 oo "java/lang/String" "coder" "B" (.int (0 : Int32))) (P3 : Arv Z h0 ar ka .char (2 : Int32) [(.int c0), (.int c1)] (.int (0 : Int32))) (P4 : Sta Z h0 "java/lang/String" "COMPACT_STRINGS" "Z" (.int cs)) (g_oo : n0 ≤ oo) (ne_oo_ar : oo ≠ ar) (hc0 : ¬ ((255 : Int32) < c0)) (hc1 : ¬ ((255 : Int32) < c1)) (hcs : cs ≠ (0 : Int32)) :
    MetFree l (⟨"java/lang/String", "<init>", "([CIILjava/lang/Void;)V"⟩ : MethodName) (head1 (Jvm.Cond.code (⟨"java/lang/String", "<init>", "([CIILjava/lang/Void;)V"⟩ : MethodName) jdk_42_method_149_code 6 none :: ws) ({ frames := 2, cells := 1, slots := 2, locals := 35 } : Room)) (fun a U => a = #[(.ref oo), (.ref ar), (.int (0 : Int32)), (.int (2 : Int32)), .null] ∧ Z.Warmed39 U.vm ∧ U.heap = h0) (fun _ _ _ _ _ => True) (fun _ U o U' => ∃ v L, o = .returned v ∧ QiniV_2 Z oo ar ka c0 c1 cs h0 n0 v U'.heap L ∧ FrameEnd U o U' L ({ frames := 2, cells := 1, slots := 2, locals := 35 } : Room).cells ({ frames := 2, cells := 1, slots := 2, locals := 35 } : Room).slots) := by
  refine MetFree.of_bodySF (plainFor_of_name pn_1) hisR ?_
  intro p e s m args below meth c s₁ Bd hml0 hP hK
  obtain ⟨rfl, hZ, hh⟩ := hP
  have hx := Bd.exec
  have hby := Bd.bytes
  have hml : c.maxLocals = 6 := hml0
  have hown : s.vm.findClass "java/lang/String" = some m.cls := findClass_of_methodNamed Bd.named
  have hnm := (name_of_methodNamed Bd.named Bd.method).1
  have X0 : Stand p l e ({ frames := 2, cells := 1, slots := 2, locals := 35 } : Room) s m #[(.ref oo), (.ref ar), (.int (0 : Int32)), (.int (2 : Int32)), .null] below meth c s₁ [] 0 0 := Stand.of_body Bd
  have e0 : s₁.heap = h0 := by rw [← hh, Bd.state]; rfl
  have N0 := Fr.nil n0
  have K0 : Keep h0 h0 [oo] := Keep.refl h0 _
  refine own_go (B := s₁.setTop (mkF m 0 #[.val (.ref oo), .val (.ref ar), .val (.int (0 : Int32)), .val (.int (2 : Int32)), .val .null, .unset] [])) (fun t k => castTop (efiniV_2 m oo ar) k) ?_
  refine own_go (B := s₁.setTop (mkF m 1 #[.val (.ref oo), .val (.ref ar), .val (.int (0 : Int32)), .val (.int (2 : Int32)), .val .null, .unset] [(.ref oo)])) (fun t k => ?_) ?_
  · refine XS.aloadN X0.here hx rfl (hb hby d3_0) rfl rfl ?_
    exact k
  obtain ⟨T58, X58, e58, st58⟩ := initO X0 hx hZ hown (own_w hw 21 rfl) (own_w hw 22 rfl) (own_w hw 23 rfl) e0 (g := (mkF m 1 #[.val (.ref oo), .val (.ref ar), .val (.int (0 : Int32)), .val (.int (2 : Int32)), .val .null, .unset] [(.ref oo)])) rfl (by rw [hml]; rfl) rfl (hb hby d3_1) (by decide) (W := 0) (by show 2 * 0 + _ ≤ _; exact Nat.le_of_eq rfl) (by decide)
  refine own_go st58 ?_
  refine own_go (B := T58.setTop (mkF m 27 #[.val (.ref oo), .val (.ref ar), .val (.int (0 : Int32)), .val (.int (2 : Int32)), .val .null, .unset] [])) (fun t k => ?_) ?_
  · refine XS.iloadN X58.here hx rfl (hb hby d3_4) rfl ?_
    refine XS.ifYes X58.here hx rfl (pc0 := 5) (pc' := 27) rfl (hb hby d3_5) rfl ((if0 _ _).trans (feq (by decide : ¬ ((2 : Int32) = (0 : Int32)))).2) (by decide) (by decide) ?_
    exact k
  obtain ⟨T60, X60, e60, st60⟩ := getS2 X58 hx hZ hown (host := "") (Or.inl (own_w hw 24 rfl)) Via.refl e58 P4 (g := (mkF m 27 #[.val (.ref oo), .val (.ref ar), .val (.int (0 : Int32)), .val (.int (2 : Int32)), .val .null, .unset] [])) rfl (hb hby d3_27)
  refine own_go st60 ?_
  have hc30_61 : ¬ (cs = (0 : Int32)) := hcs
  refine own_go (B := T60.setTop (mkF m 36 #[.val (.ref oo), .val (.ref ar), .val (.int (0 : Int32)), .val (.int (2 : Int32)), .val .null, .unset] [(.int (2 : Int32)), (.int (0 : Int32)), (.ref ar)])) (fun t k => ?_) ?_
  · refine XS.ifNo X60.here hx rfl (hb hby d3_30) rfl ((if0 _ _).trans (feq hc30_61).1) ?_
    refine XS.aloadN X60.here hx rfl (hb hby d3_33) rfl rfl ?_
    refine XS.iloadN X60.here hx rfl (hb hby d3_34) rfl ?_
    refine XS.iloadN X60.here hx rfl (hb hby d3_35) rfl ?_
    exact k
  obtain ⟨_, _, ⟨T62, L62, k62, n62⟩, -, X62, ⟨Lc62, hQ62, l62, y62, z62⟩, st62⟩ := Jvm.LawKit.callS X60 hx (y := (⟨"java/lang/StringUTF16", "compress", "([CII)[B"⟩ : MethodName)) hown (mvT hZ (own_w hw 25 rfl)) (mvT hZ (own_w hw 26 rfl)) (mvT hZ (own_w hw 27 rfl)) (mvT hZ (own_w hw 28 rfl)) (by decide) (backOf (W := 0) (cmp3_2 l Z a0 hw [] ar ka c0 c1 h0 n0 Z0 P3 hc0 hc1) hZ (own_w hw 28 rfl) (own_w hw 27 rfl) (by decide) (by decide)) (g := (mkF m 36 #[.val (.ref oo), .val (.ref ar), .val (.int (0 : Int32)), .val (.int (2 : Int32)), .val .null, .unset] [(.int (2 : Int32)), (.int (0 : Int32)), (.ref ar)])) rfl (by rw [hml]; rfl) (argsL := [(.ref ar), (.int (0 : Int32)), (.int (2 : Int32))]) (rest := []) (lenOf pd_1 rfl) rfl (by show 2 * 0 + _ ≤ _; exact Nat.le_of_eq rfl) (hb hby d3_36) (fun _ _ => ⟨rfl, e60, (by decide : 0 + 1 ≤ _), (by decide : 0 + 2 ≤ _)⟩)
  dsimp only [Pt.U, Pt.locs, Pt.cells, Pt.slots] at X62 l62 y62 z62 st62 hQ62
  subst l62 y62 z62
  obtain ⟨br_62, kb_62, rfl, Nq62, Kq62, sq_br_62, U62_0⟩ := hQ62
  have ne_ar_br_62 : ar ≠ br_62 := Nat.ne_of_lt (Nat.lt_of_lt_of_le P3.lt sq_br_62)
  have ne_oo_br_62 : oo ≠ br_62 := Nat.ne_of_lt (Nat.lt_of_lt_of_le P0.lt sq_br_62)
  have low_br_62 : n0 ≤ br_62 := Nat.le_trans Z0 sq_br_62
  have sz_br_62 : h0.size ≤ br_62 := Nat.le_trans K0.1 sq_br_62
  have Q63 : Exa Z T62.heap oo "java/lang/String" := P0.keep Kq62
  have Q64 : Fld Z T62.heap oo "java/lang/String" "value" "[B" .null := P1.keep Kq62 nin0
  have Q65 : Fld Z T62.heap oo "java/lang/String" "coder" "B" (.int (0 : Int32)) := P2.keep Kq62 nin0
  have Q66 : Arv Z T62.heap ar ka .char (2 : Int32) [(.int c0), (.int c1)] (.int (0 : Int32)) := P3.keep Kq62 nin0
  have Q67 : Sta Z T62.heap "java/lang/String" "COMPACT_STRINGS" "Z" (.int cs) := own_staK P4 Kq62 ns0
  have Z62 : n0 ≤ T62.heap.size := Nat.le_trans Z0 Kq62.1
  have K62 : Keep h0 T62.heap [oo] := K0.trans Kq62 all0
  have N62 := Fr.app N0 Nq62
  refine own_go (B := T62.setTop (mkF m 39 #[.val (.ref oo), .val (.ref ar), .val (.int (0 : Int32)), .val (.int (2 : Int32)), .val .null, .unset] [(.ref br_62)])) st62 ?_
  refine own_go (B := T62.setTop (mkF m 45 #[.val (.ref oo), .val (.ref ar), .val (.int (0 : Int32)), .val (.int (2 : Int32)), .val .null, .val (.ref br_62)] [(.int (2 : Int32)), (.ref br_62), (.ref oo)])) (fun t k => ?_) ?_
  · refine XS.astore X62.here hx rfl (hb hby d3_39) rfl rfl (l' := #[.val (.ref oo), .val (.ref ar), .val (.int (0 : Int32)), .val (.int (2 : Int32)), .val .null, .val (.ref br_62)]) rfl ?_
    refine XS.aloadN X62.here hx rfl (hb hby d3_41) rfl rfl ?_
    refine XS.aload X62.here hx rfl (hb hby d3_42) rfl rfl ?_
    refine XS.iloadN X62.here hx rfl (hb hby d3_44) rfl ?_
    exact k
  obtain ⟨_, _, ⟨T68, L68, k68, n68⟩, -, X68, ⟨Lc68, hQ68, l68, y68, z68⟩, st68⟩ := Jvm.LawKit.callS X62 hx (y := (⟨"java/lang/StringUTF16", "coderFromArrayLen", "([BI)B"⟩ : MethodName)) hown (mvT hZ (own_w hw 32 rfl)) (mvT hZ (own_w hw 33 rfl)) (mvT hZ (own_w hw 27 rfl)) (mvT hZ (own_w hw 34 rfl)) (by decide) (backOf (W := 1) (cfal_2 l Z a0 hw [] br_62 kb_62 (c0.toInt8.toInt32.toInt8.toInt32) (c1.toInt8.toInt32.toInt8.toInt32) T62.heap n0 Z62 U62_0) hZ (own_w hw 34 rfl) (own_w hw 27 rfl) (by decide) (by decide)) (g := (mkF m 45 #[.val (.ref oo), .val (.ref ar), .val (.int (0 : Int32)), .val (.int (2 : Int32)), .val .null, .val (.ref br_62)] [(.int (2 : Int32)), (.ref br_62), (.ref oo)])) rfl (by rw [hml]; rfl) (argsL := [(.ref br_62), (.int (2 : Int32))]) (rest := [(.ref oo)]) (lenOf pd_2 rfl) rfl (by show 2 * 0 + _ ≤ _; exact Nat.le_of_eq rfl) (hb hby d3_45) (fun _ _ => ⟨rfl, rfl, (by decide : 1 + 0 ≤ _), (by decide : 2 + 0 ≤ _)⟩)
  dsimp only [Pt.U, Pt.locs, Pt.cells, Pt.slots] at X68 l68 y68 z68 st68 hQ68
  subst l68 y68 z68
  obtain ⟨rfl, Nq68, e68⟩ := hQ68
  have N68 := Fr.app N62 Nq68
  refine own_go (B := T68.setTop (mkF m 48 #[.val (.ref oo), .val (.ref ar), .val (.int (0 : Int32)), .val (.int (2 : Int32)), .val .null, .val (.ref br_62)] [(.int (nar .byte ((0 : Int32).toInt8.toInt32))), (.ref oo)])) st68 ?_
  obtain ⟨T69, h69, X69, e69, W69, st69⟩ := putFN (v' := (.int (nar .byte (nar .byte ((0 : Int32).toInt8.toInt32))))) X68 hx hZ hown (own_w hw 35 rfl) Via.refl e68 Q65 Q63 (Or.inr ⟨(own_w hw 9 rfl), rfl, hnm⟩) (own_w hw 6 rfl) (ty := .byte) (by decide) rfl (fits_nar_byte _) (g := (mkF m 48 #[.val (.ref oo), .val (.ref ar), .val (.int (0 : Int32)), .val (.int (2 : Int32)), .val .null, .val (.ref br_62)] [(.int (nar .byte ((0 : Int32).toInt8.toInt32))), (.ref oo)])) rfl rfl (hb hby d3_48)
  have Q70 : Exa Z h69 oo "java/lang/String" := Q63.wr W69
  have Q71 : Fld Z h69 oo "java/lang/String" "value" "[B" .null := Q64.other W69 (Or.inr (slot_ne (Or.inr (own_w hw 8 rfl)) (Or.inr (own_w hw 9 rfl)) (by decide) (t := (.array .byte)) (t' := .byte) (by decide) (by decide)))
  have Q72 : Arv Z h69 ar ka .char (2 : Int32) [(.int c0), (.int c1)] (.int (0 : Int32)) := Q66.other W69 (Ne.symm ne_oo_ar)
  have Q73 : Sta Z h69 "java/lang/String" "COMPACT_STRINGS" "Z" (.int cs) := Q67.wr W69
  have Q74 : Arv Z h69 br_62 kb_62 .byte (2 : Int32) [(.int (c0.toInt8.toInt32.toInt8.toInt32)), (.int (c1.toInt8.toInt32.toInt8.toInt32))] (.int (0 : Int32)) := U62_0.other W69 (Ne.symm ne_oo_br_62)
  have U69 : Fld Z h69 oo "java/lang/String" "coder" "B" (.int (nar .byte (nar .byte ((0 : Int32).toInt8.toInt32)))) := Q65.same W69
  have Z69 : n0 ≤ h69.size := Nat.le_trans Z62 (Keep.of_wr W69).1
  have N69 := Fr.snoc X69 N68 g_oo
  have K69 := K62.wr W69 (Or.inl (List.mem_of_getElem? (i := 0) rfl))
  refine own_go st69 ?_
  refine own_go (B := T69.setTop (mkF m 54 #[.val (.ref oo), .val (.ref ar), .val (.int (0 : Int32)), .val (.int (2 : Int32)), .val .null, .val (.ref br_62)] [(.ref br_62), (.ref oo)])) (fun t k => ?_) ?_
  · refine XS.aloadN X69.here hx rfl (hb hby d3_51) rfl rfl ?_
    refine XS.aload X69.here hx rfl (hb hby d3_52) rfl rfl ?_
    exact k
  obtain ⟨T75, h75, X75, e75, W75, st75⟩ := putF X69 hx hZ hown (host := "") (Or.inl (own_w hw 36 rfl)) Via.refl e69 Q71 Q70 (Or.inr ⟨(own_w hw 8 rfl), rfl, hnm⟩) (own_w hw 6 rfl) (ty := (.array .byte)) (by decide) rfl rfl (g := (mkF m 54 #[.val (.ref oo), .val (.ref ar), .val (.int (0 : Int32)), .val (.int (2 : Int32)), .val .null, .val (.ref br_62)] [(.ref br_62), (.ref oo)])) rfl rfl (hb hby d3_54)
  have Q76 : Exa Z h75 oo "java/lang/String" := Q70.wr W75
  have Q77 : Arv Z h75 ar ka .char (2 : Int32) [(.int c0), (.int c1)] (.int (0 : Int32)) := Q72.other W75 (Ne.symm ne_oo_ar)
  have Q78 : Sta Z h75 "java/lang/String" "COMPACT_STRINGS" "Z" (.int cs) := Q73.wr W75
  have Q79 : Arv Z h75 br_62 kb_62 .byte (2 : Int32) [(.int (c0.toInt8.toInt32.toInt8.toInt32)), (.int (c1.toInt8.toInt32.toInt8.toInt32))] (.int (0 : Int32)) := Q74.other W75 (Ne.symm ne_oo_br_62)
  have Q80 : Fld Z h75 oo "java/lang/String" "coder" "B" (.int (nar .byte (nar .byte ((0 : Int32).toInt8.toInt32)))) := U69.other W75 (Or.inr (slot_ne (Or.inr (own_w hw 9 rfl)) (Or.inr (own_w hw 8 rfl)) (by decide) (t := .byte) (t' := (.array .byte)) (by decide) (by decide)))
  have U75 : Fld Z h75 oo "java/lang/String" "value" "[B" (.ref br_62) := Q71.same W75
  have Z75 : n0 ≤ h75.size := Nat.le_trans Z69 (Keep.of_wr W75).1
  have N75 := Fr.snoc X75 N69 g_oo
  have K75 := K69.wr W75 (Or.inl (List.mem_of_getElem? (i := 0) rfl))
  refine own_go st75 ?_
  obtain ⟨fs, hr, hrun, hended, hW, hsame⟩ := X75.leave (v := none) (fun _ => rfl)
  refine ⟨_, _, ?_, hrun, hended, _, _, rfl, ?_, ⟨_, rfl⟩, hW, hsame.mono (by decide) (by decide)⟩
  · show Steps p.tables e below (T75.setTop (mkF m 57 #[.val (.ref oo), .val (.ref ar), .val (.int (0 : Int32)), .val (.int (2 : Int32)), .val .null, .val (.ref br_62)] [])) _
    exact X75.returnOut hx Bd.returns (hb hby d3_57) hr
  · show QiniV_2 Z oo ar ka c0 c1 cs h0 n0 _ T75.heap _
    rw [e75]
    exact ⟨rfl, N75, K75⟩
def QiniC_2 (Z : State) (oo : Addr) (ar : Addr) (ka : ClassId) (c0 : Int32) (c1 : Int32) (cs : Int32) (h0 : Heap) (n0 : Nat) (v : Option Value) (h : Heap) (L : List Loc) : Prop := v = none ∧ Fr n0 L ∧ Keep h0 h [oo]
theorem efiniC_2 (m : MethodId) (x0 : Addr) (x1 : Addr) : entryFrame m #[(.ref x0), (.ref x1)] 2 = mkF m 0 #[.val (.ref x0), .val (.ref x1)] [] := by first | (simp [entryFrame, mkF, argsToLocals, Value.category]; done) | rfl
set_option maxRecDepth 65536 in
set_option maxHeartbeats 40000000 in
theorem iniC_2 (l : Launch) (Z : State) (a0 : Array Value) (hw : ∀ d ∈ tables_1, d.before a0 Z = true) (ws : List Jvm.Cond) (oo : Addr) (ar : Addr) (ka : ClassId) (c0 : Int32) (c1 : Int32) (cs : Int32) (h0 : Heap) (n0 : Nat) (Z0 : n0 ≤ h0.size) (P0 : Exa Z h0 oo "java/lang/String") (P1 : Fld Z h0 oo "java/lang/String" "value" "[B" .null) (P2 : Fld Z h0 oo "java/lang/String" "coder" "B" (.int (0 : Int32))) (P3 : Arv Z h0 ar ka .char (2 : Int32) [(.int c0), (.int c1)] (.int (0 : Int32))) (P4 : Sta Z h0 "java/lang/String" "COMPACT_STRINGS" "Z" (.int cs)) (g_oo : n0 ≤ oo) (ne_oo_ar : oo ≠ ar) (hc0 : ¬ ((255 : Int32) < c0)) (hc1 : ¬ ((255 : Int32) < c1)) (hcs : cs ≠ (0 : Int32)) :
    MetFree l (⟨"java/lang/String", "<init>", "([C)V"⟩ : MethodName) (head1 (Jvm.Cond.code (⟨"java/lang/String", "<init>", "([C)V"⟩ : MethodName) jdk_42_method_3_code 2 none :: ws) ({ frames := 3, cells := 1, slots := 2, locals := 52 } : Room)) (fun a U => a = #[(.ref oo), (.ref ar)] ∧ Z.Warmed39 U.vm ∧ U.heap = h0) (fun _ _ _ _ _ => True) (fun _ U o U' => ∃ v L, o = .returned v ∧ QiniC_2 Z oo ar ka c0 c1 cs h0 n0 v U'.heap L ∧ FrameEnd U o U' L ({ frames := 3, cells := 1, slots := 2, locals := 52 } : Room).cells ({ frames := 3, cells := 1, slots := 2, locals := 52 } : Room).slots) := by
  refine MetFree.of_bodySF (plainFor_of_name pn_1) hisR ?_
  intro p e s m args below meth c s₁ Bd hml0 hP hK
  obtain ⟨rfl, hZ, hh⟩ := hP
  have hx := Bd.exec
  have hby := Bd.bytes
  have hml : c.maxLocals = 2 := hml0
  have hown : s.vm.findClass "java/lang/String" = some m.cls := findClass_of_methodNamed Bd.named
  have hnm := (name_of_methodNamed Bd.named Bd.method).1
  have X0 : Stand p l e ({ frames := 3, cells := 1, slots := 2, locals := 52 } : Room) s m #[(.ref oo), (.ref ar)] below meth c s₁ [] 0 0 := Stand.of_body Bd
  have e0 : s₁.heap = h0 := by rw [← hh, Bd.state]; rfl
  have N0 := Fr.nil n0
  have K0 : Keep h0 h0 [oo] := Keep.refl h0 _
  refine own_go (B := s₁.setTop (mkF m 0 #[.val (.ref oo), .val (.ref ar)] [])) (fun t k => castTop (efiniC_2 m oo ar) k) ?_
  refine own_go (B := s₁.setTop (mkF m 4 #[.val (.ref oo), .val (.ref ar)] [(.ref ar), (.int (0 : Int32)), (.ref ar), (.ref oo)])) (fun t k => ?_) ?_
  · refine XS.aloadN X0.here hx rfl (hb hby d2_0) rfl rfl ?_
    refine XS.aloadN X0.here hx rfl (hb hby d2_1) rfl rfl ?_
    refine XS.iconst X0.here hx rfl (hb hby d2_2) ?_
    refine XS.aloadN X0.here hx rfl (hb hby d2_3) rfl rfl ?_
    exact k
  obtain ⟨cl81, Ar81, q81, S81, M81, Ha81, G81⟩ := id P3
  refine own_go (B := s₁.setTop (mkF m 5 #[.val (.ref oo), .val (.ref ar)] [(.int (2 : Int32)), (.int (0 : Int32)), (.ref ar), (.ref oo)])) (fun t k => ?_) ?_
  · refine X0.arraylength hx (by rw [e0]; exact Ar81.1) (State.isArrayOf_alike hZ.alike Ar81.2.1) (g := (mkF m 4 #[.val (.ref oo), .val (.ref ar)] [(.ref ar), (.int (0 : Int32)), (.ref ar), (.ref oo)])) rfl rfl (hb hby d2_4) _ ?_
    rw [len_of S81 M81]
    exact k
  refine own_go (B := s₁.setTop (mkF m 6 #[.val (.ref oo), .val (.ref ar)] [.null, (.int (2 : Int32)), (.int (0 : Int32)), (.ref ar), (.ref oo)])) (fun t k => ?_) ?_
  · refine XS.aconstNull X0.here hx rfl (hb hby d2_5) ?_
    exact k
  obtain ⟨_, _, ⟨T82, L82, k82, n82⟩, -, X82, ⟨Lc82, hQ82, l82, y82, z82⟩, st82⟩ := X0.specialBack hx (y := (⟨"java/lang/String", "<init>", "([CIILjava/lang/Void;)V"⟩ : MethodName)) rfl hown (mvT hZ (own_w hw 17 rfl)) (mvT hZ (own_w hw 18 rfl)) (mvT hZ (own_w hw 20 rfl)) (by decide) (backOf (W := 0) (iniV_2 l Z a0 hw [] oo ar ka c0 c1 cs h0 n0 Z0 P0 P1 P2 P3 P4 g_oo ne_oo_ar hc0 hc1 hcs) hZ (own_w hw 20 rfl) (own_w hw 5 rfl) (by decide) (by decide)) (g := (mkF m 6 #[.val (.ref oo), .val (.ref ar)] [.null, (.int (2 : Int32)), (.int (0 : Int32)), (.ref ar), (.ref oo)])) rfl (by rw [hml]; rfl) (Steps.refl _) (a := oo) (argsL := [(.ref ar), (.int (0 : Int32)), (.int (2 : Int32)), .null]) (rest := []) (lenOf pd_3 rfl) rfl (by show 2 * 0 + _ ≤ _; exact Nat.le_of_eq rfl) (hb hby d2_6) (fun _ _ => ⟨rfl, e0, (by decide : 0 + 1 ≤ _), (by decide : 0 + 2 ≤ _)⟩)
  dsimp only [Pt.U, Pt.locs, Pt.cells, Pt.slots] at X82 l82 y82 z82 st82 hQ82
  subst l82 y82 z82
  obtain ⟨rfl, Nq82, Kq82⟩ := hQ82
  have Q83 : Exa Z T82.heap oo "java/lang/String" := P0.keep Kq82
  have Q84 : Arv Z T82.heap ar ka .char (2 : Int32) [(.int c0), (.int c1)] (.int (0 : Int32)) := P3.keep Kq82 (ninS (Ne.symm ne_oo_ar) nin0)
  have Q85 : Sta Z T82.heap "java/lang/String" "COMPACT_STRINGS" "Z" (.int cs) := own_staK P4 Kq82 (nsS (own_nsE P0) ns0)
  have Z82 : n0 ≤ T82.heap.size := Nat.le_trans Z0 Kq82.1
  have K82 : Keep h0 T82.heap [oo] := K0.trans Kq82 (allS (Or.inl (List.mem_of_getElem? (i := 0) rfl)) all0)
  have N82 := Fr.app N0 Nq82
  refine own_go (B := T82.setTop (mkF m 9 #[.val (.ref oo), .val (.ref ar)] [])) (fun t k => st82.trans k) ?_
  obtain ⟨fs, hr, hrun, hended, hW, hsame⟩ := X82.leave (v := none) (fun _ => rfl)
  refine ⟨_, _, ?_, hrun, hended, _, _, rfl, ?_, ⟨_, rfl⟩, hW, hsame.mono (by decide) (by decide)⟩
  · show Steps p.tables e below (T82.setTop (mkF m 9 #[.val (.ref oo), .val (.ref ar)] [])) _
    exact X82.returnOut hx Bd.returns (hb hby d2_9) hr
  · show QiniC_2 Z oo ar ka c0 c1 cs h0 n0 _ T82.heap _
    skip
    exact ⟨rfl, N82, K82⟩
def Qcmp5_3 (Z : State) (ar : Addr) (br : Addr) (ka : ClassId) (kb : ClassId) (c0 : Int32) (c1 : Int32) (c2 : Int32) (h0 : Heap) (n0 : Nat) (v : Option Value) (h : Heap) (L : List Loc) : Prop := v = some (.int (3 : Int32)) ∧ Fr n0 L ∧ Keep h0 h [br] ∧ Arv Z h br kb .byte (3 : Int32) [(.int (c0.toInt8.toInt32.toInt8.toInt32)), (.int (c1.toInt8.toInt32.toInt8.toInt32)), (.int (c2.toInt8.toInt32.toInt8.toInt32))] (.int (0 : Int32))
theorem efcmp5_3 (m : MethodId) (x0 : Addr) (x2 : Addr) : entryFrame m #[(.ref x0), (.int (0 : Int32)), (.ref x2), (.int (0 : Int32)), (.int (3 : Int32))] 7 = mkF m 0 #[.val (.ref x0), .val (.int (0 : Int32)), .val (.ref x2), .val (.int (0 : Int32)), .val (.int (3 : Int32)), .unset, .unset] [] := by first | (simp [entryFrame, mkF, argsToLocals, Value.category]; done) | rfl
set_option maxRecDepth 65536 in
set_option maxHeartbeats 40000000 in
theorem cmp5_3 (l : Launch) (Z : State) (a0 : Array Value) (hw : ∀ d ∈ tables_1, d.before a0 Z = true) (ws : List Jvm.Cond) (ar : Addr) (br : Addr) (ka : ClassId) (kb : ClassId) (c0 : Int32) (c1 : Int32) (c2 : Int32) (h0 : Heap) (n0 : Nat) (Z0 : n0 ≤ h0.size) (P0 : Arv Z h0 ar ka .char (3 : Int32) [(.int c0), (.int c1), (.int c2)] (.int (0 : Int32))) (P1 : Arv Z h0 br kb .byte (3 : Int32) [(.int (0 : Int32)), (.int (0 : Int32)), (.int (0 : Int32))] (.int (0 : Int32))) (g_br : n0 ≤ br) (ne_ar_br : ar ≠ br) (hc0 : ¬ ((255 : Int32) < c0)) (hc1 : ¬ ((255 : Int32) < c1)) (hc2 : ¬ ((255 : Int32) < c2)) :
    MetFree l (⟨"java/lang/StringUTF16", "compress", "([CI[BII)I"⟩ : MethodName) (head1 (Jvm.Cond.code (⟨"java/lang/StringUTF16", "compress", "([CI[BII)I"⟩ : MethodName) jdk_52_method_21_code 7 (some .int) :: ws) ({ frames := 0, cells := 0, slots := 0, locals := 0 } : Room)) (fun a U => a = #[(.ref ar), (.int (0 : Int32)), (.ref br), (.int (0 : Int32)), (.int (3 : Int32))] ∧ Z.Warmed39 U.vm ∧ U.heap = h0) (fun _ _ _ _ _ => True) (fun _ U o U' => ∃ v L, o = .returned v ∧ Qcmp5_3 Z ar br ka kb c0 c1 c2 h0 n0 v U'.heap L ∧ FrameEnd U o U' L ({ frames := 0, cells := 0, slots := 0, locals := 0 } : Room).cells ({ frames := 0, cells := 0, slots := 0, locals := 0 } : Room).slots) := by
  refine MetFree.of_bodySF (plainFor_of_name pn_0) hisR ?_
  intro p e s m args below meth c s₁ Bd hml0 hP hK
  obtain ⟨rfl, hZ, hh⟩ := hP
  have hx := Bd.exec
  have hby := Bd.bytes
  have hml : c.maxLocals = 7 := hml0
  have hown : s.vm.findClass "java/lang/StringUTF16" = some m.cls := findClass_of_methodNamed Bd.named
  have hnm := (name_of_methodNamed Bd.named Bd.method).1
  have X0 : Stand p l e ({ frames := 0, cells := 0, slots := 0, locals := 0 } : Room) s m #[(.ref ar), (.int (0 : Int32)), (.ref br), (.int (0 : Int32)), (.int (3 : Int32))] below meth c s₁ [] 0 0 := Stand.of_body Bd
  have e0 : s₁.heap = h0 := by rw [← hh, Bd.state]; rfl
  have N0 := Fr.nil n0
  have K0 : Keep h0 h0 [br] := Keep.refl h0 _
  refine own_go (B := s₁.setTop (mkF m 0 #[.val (.ref ar), .val (.int (0 : Int32)), .val (.ref br), .val (.int (0 : Int32)), .val (.int (3 : Int32)), .unset, .unset] [])) (fun t k => castTop (efcmp5_3 m ar br) k) ?_
  refine own_go (B := s₁.setTop (mkF m 12 #[.val (.ref ar), .val (.int (0 : Int32)), .val (.ref br), .val (.int (0 : Int32)), .val (.int (3 : Int32)), .val (.int (0 : Int32)), .unset] [(.int (0 : Int32)), (.ref ar)])) (fun t k => ?_) ?_
  · refine XS.iconst X0.here hx rfl (hb hby d6_0) ?_
    refine XS.istore X0.here hx rfl (hb hby d6_1) rfl (l' := #[.val (.ref ar), .val (.int (0 : Int32)), .val (.ref br), .val (.int (0 : Int32)), .val (.int (3 : Int32)), .val (.int (0 : Int32)), .unset]) rfl ?_
    refine XS.iload X0.here hx rfl (hb hby d6_3) rfl ?_
    refine XS.iload X0.here hx rfl (hb hby d6_5) rfl ?_
    refine XS.icmpNo X0.here hx rfl (hb hby d6_7) rfl (tlt (by decide : ((0 : Int32) < (3 : Int32)))).2.1 ?_
    refine XS.aloadN X0.here hx rfl (hb hby d6_10) rfl rfl ?_
    refine XS.iloadN X0.here hx rfl (hb hby d6_11) rfl ?_
    exact k
  obtain ⟨cl87, Ar87, q87, S87, M87, Ha87, G87⟩ := id P0
  have hin87 : ¬ ((0 : Int32) < 0 ∨ cl87.slots.size ≤ ((0 : Int32)).toNatClampNeg) := inb_of S87 ⟨by decide, by decide⟩
  refine own_go (X0.caload hx (j := (0 : Int32)) (v := (.int c0)) (by rw [e0]; exact Ar87.1) (State.isArrayOf_alike hZ.alike Ar87.2.1) Ar87.2.2 hin87 (Has.at Ha87 hin87 rfl) (g := (mkF m 12 #[.val (.ref ar), .val (.int (0 : Int32)), .val (.ref br), .val (.int (0 : Int32)), .val (.int (3 : Int32)), .val (.int (0 : Int32)), .unset] [(.int (0 : Int32)), (.ref ar)])) rfl rfl (hb hby d6_12)) ?_
  refine own_go (B := s₁.setTop (mkF m 20 #[.val (.ref ar), .val (.int (0 : Int32)), .val (.ref br), .val (.int (0 : Int32)), .val (.int (3 : Int32)), .val (.int (0 : Int32)), .val (.int c0)] [(.int (255 : Int32)), (.int c0)])) (fun t k => ?_) ?_
  · refine XS.istore X0.here hx rfl (hb hby d6_13) rfl (l' := #[.val (.ref ar), .val (.int (0 : Int32)), .val (.ref br), .val (.int (0 : Int32)), .val (.int (3 : Int32)), .val (.int (0 : Int32)), .val (.int c0)]) rfl ?_
    refine XS.iload X0.here hx rfl (hb hby d6_15) rfl ?_
    refine XS.sipush X0.here hx rfl (hb hby d6_17) ?_
    exact k
  have hc20_88 : ¬ ((255 : Int32) < c0) := hc0
  refine own_go (B := s₁.setTop (mkF m 31 #[.val (.ref ar), .val (.int (0 : Int32)), .val (.ref br), .val (.int (0 : Int32)), .val (.int (3 : Int32)), .val (.int (0 : Int32)), .val (.int c0)] [(.int (c0.toInt8.toInt32)), (.int (0 : Int32)), (.ref br)])) (fun t k => ?_) ?_
  · refine XS.icmpYes X0.here hx rfl (pc0 := 20) (pc' := 26) rfl (hb hby d6_20) rfl (flt hc20_88).2.2.2 (by decide) (by decide) ?_
    refine XS.aloadN X0.here hx rfl (hb hby d6_26) rfl rfl ?_
    refine XS.iloadN X0.here hx rfl (hb hby d6_27) rfl ?_
    refine XS.iload X0.here hx rfl (hb hby d6_28) rfl ?_
    refine XS.i2b X0.here hx rfl (hb hby d6_30) rfl ?_
    exact k
  obtain ⟨cl89, Ar89, q89, S89, M89, Ha89, G89⟩ := P1
  have hin89 : ¬ ((0 : Int32) < 0 ∨ cl89.slots.size ≤ ((0 : Int32)).toNatClampNeg) := inb_of S89 ⟨by decide, by decide⟩
  obtain ⟨T89, h89, X89, e89, W89, st89⟩ := stB X0 hx hZ e0 Ar89 (j := (0 : Int32)) hin89 (g := (mkF m 31 #[.val (.ref ar), .val (.int (0 : Int32)), .val (.ref br), .val (.int (0 : Int32)), .val (.int (3 : Int32)), .val (.int (0 : Int32)), .val (.int c0)] [(.int (c0.toInt8.toInt32)), (.int (0 : Int32)), (.ref br)])) rfl rfl (hb hby d6_31)
  have Q90 : Arv Z h89 ar ka .char (3 : Int32) [(.int c0), (.int c1), (.int c2)] (.int (0 : Int32)) := P0.other W89 ne_ar_br
  have U89 : Arv Z h89 br kb .byte (3 : Int32) [(.int ((c0.toInt8.toInt32).toInt8.toInt32)), (.int (0 : Int32)), (.int (0 : Int32))] (.int (0 : Int32)) := Arv.set Ar89 q89 S89 M89 Ha89 G89 (fits_nar_byte _) W89 0 rfl (Nat.le_of_ble_eq_true rfl)
  have Z89 : n0 ≤ h89.size := Nat.le_trans Z0 (Keep.of_wr W89).1
  have N89 := Fr.snoc X89 N0 g_br
  have K89 := K0.wr W89 (Or.inl (List.mem_of_getElem? (i := 0) rfl))
  refine own_go st89 ?_
  refine own_go (B := T89.setTop (mkF m 12 #[.val (.ref ar), .val (.int (1 : Int32)), .val (.ref br), .val (.int (1 : Int32)), .val (.int (3 : Int32)), .val (.int (1 : Int32)), .val (.int c0)] [(.int (1 : Int32)), (.ref ar)])) (fun t k => ?_) ?_
  · refine XS.iinc X89.here hx rfl (hb hby d6_32) rfl (l' := #[.val (.ref ar), .val (.int (1 : Int32)), .val (.ref br), .val (.int (0 : Int32)), .val (.int (3 : Int32)), .val (.int (0 : Int32)), .val (.int c0)]) rfl ?_
    refine XS.iinc X89.here hx rfl (hb hby d6_35) rfl (l' := #[.val (.ref ar), .val (.int (1 : Int32)), .val (.ref br), .val (.int (1 : Int32)), .val (.int (3 : Int32)), .val (.int (0 : Int32)), .val (.int c0)]) rfl ?_
    refine XS.iinc X89.here hx rfl (hb hby d6_38) rfl (l' := #[.val (.ref ar), .val (.int (1 : Int32)), .val (.ref br), .val (.int (1 : Int32)), .val (.int (3 : Int32)), .val (.int (1 : Int32)), .val (.int c0)]) rfl ?_
    refine XS.goto X89.here hx rfl (pc0 := 41) (pc' := 3) rfl (hb hby d6_41) (by decide) (by decide) ?_
    refine XS.iload X89.here hx rfl (hb hby d6_3) rfl ?_
    refine XS.iload X89.here hx rfl (hb hby d6_5) rfl ?_
    refine XS.icmpNo X89.here hx rfl (hb hby d6_7) rfl (tlt (by decide : ((1 : Int32) < (3 : Int32)))).2.1 ?_
    refine XS.aloadN X89.here hx rfl (hb hby d6_10) rfl rfl ?_
    refine XS.iloadN X89.here hx rfl (hb hby d6_11) rfl ?_
    exact k
  obtain ⟨cl92, Ar92, q92, S92, M92, Ha92, G92⟩ := id Q90
  have hin92 : ¬ ((1 : Int32) < 0 ∨ cl92.slots.size ≤ ((1 : Int32)).toNatClampNeg) := inb_of S92 ⟨by decide, by decide⟩
  refine own_go (X89.caload hx (j := (1 : Int32)) (v := (.int c1)) (by rw [e89]; exact Ar92.1) (State.isArrayOf_alike hZ.alike Ar92.2.1) Ar92.2.2 hin92 (Has.at Ha92 hin92 rfl) (g := (mkF m 12 #[.val (.ref ar), .val (.int (1 : Int32)), .val (.ref br), .val (.int (1 : Int32)), .val (.int (3 : Int32)), .val (.int (1 : Int32)), .val (.int c0)] [(.int (1 : Int32)), (.ref ar)])) rfl rfl (hb hby d6_12)) ?_
  refine own_go (B := T89.setTop (mkF m 20 #[.val (.ref ar), .val (.int (1 : Int32)), .val (.ref br), .val (.int (1 : Int32)), .val (.int (3 : Int32)), .val (.int (1 : Int32)), .val (.int c1)] [(.int (255 : Int32)), (.int c1)])) (fun t k => ?_) ?_
  · refine XS.istore X89.here hx rfl (hb hby d6_13) rfl (l' := #[.val (.ref ar), .val (.int (1 : Int32)), .val (.ref br), .val (.int (1 : Int32)), .val (.int (3 : Int32)), .val (.int (1 : Int32)), .val (.int c1)]) rfl ?_
    refine XS.iload X89.here hx rfl (hb hby d6_15) rfl ?_
    refine XS.sipush X89.here hx rfl (hb hby d6_17) ?_
    exact k
  have hc20_93 : ¬ ((255 : Int32) < c1) := hc1
  refine own_go (B := T89.setTop (mkF m 31 #[.val (.ref ar), .val (.int (1 : Int32)), .val (.ref br), .val (.int (1 : Int32)), .val (.int (3 : Int32)), .val (.int (1 : Int32)), .val (.int c1)] [(.int (c1.toInt8.toInt32)), (.int (1 : Int32)), (.ref br)])) (fun t k => ?_) ?_
  · refine XS.icmpYes X89.here hx rfl (pc0 := 20) (pc' := 26) rfl (hb hby d6_20) rfl (flt hc20_93).2.2.2 (by decide) (by decide) ?_
    refine XS.aloadN X89.here hx rfl (hb hby d6_26) rfl rfl ?_
    refine XS.iloadN X89.here hx rfl (hb hby d6_27) rfl ?_
    refine XS.iload X89.here hx rfl (hb hby d6_28) rfl ?_
    refine XS.i2b X89.here hx rfl (hb hby d6_30) rfl ?_
    exact k
  obtain ⟨cl94, Ar94, q94, S94, M94, Ha94, G94⟩ := U89
  have hin94 : ¬ ((1 : Int32) < 0 ∨ cl94.slots.size ≤ ((1 : Int32)).toNatClampNeg) := inb_of S94 ⟨by decide, by decide⟩
  obtain ⟨T94, h94, X94, e94, W94, st94⟩ := stB X89 hx hZ e89 Ar94 (j := (1 : Int32)) hin94 (g := (mkF m 31 #[.val (.ref ar), .val (.int (1 : Int32)), .val (.ref br), .val (.int (1 : Int32)), .val (.int (3 : Int32)), .val (.int (1 : Int32)), .val (.int c1)] [(.int (c1.toInt8.toInt32)), (.int (1 : Int32)), (.ref br)])) rfl rfl (hb hby d6_31)
  have Q95 : Arv Z h94 ar ka .char (3 : Int32) [(.int c0), (.int c1), (.int c2)] (.int (0 : Int32)) := Q90.other W94 ne_ar_br
  have U94 : Arv Z h94 br kb .byte (3 : Int32) [(.int ((c0.toInt8.toInt32).toInt8.toInt32)), (.int ((c1.toInt8.toInt32).toInt8.toInt32)), (.int (0 : Int32))] (.int (0 : Int32)) := Arv.set Ar94 q94 S94 M94 Ha94 G94 (fits_nar_byte _) W94 1 rfl (Nat.le_of_ble_eq_true rfl)
  have Z94 : n0 ≤ h94.size := Nat.le_trans Z89 (Keep.of_wr W94).1
  have N94 := Fr.snoc X94 N89 g_br
  have K94 := K89.wr W94 (Or.inl (List.mem_of_getElem? (i := 0) rfl))
  refine own_go st94 ?_
  refine own_go (B := T94.setTop (mkF m 12 #[.val (.ref ar), .val (.int (2 : Int32)), .val (.ref br), .val (.int (2 : Int32)), .val (.int (3 : Int32)), .val (.int (2 : Int32)), .val (.int c1)] [(.int (2 : Int32)), (.ref ar)])) (fun t k => ?_) ?_
  · refine XS.iinc X94.here hx rfl (hb hby d6_32) rfl (l' := #[.val (.ref ar), .val (.int (2 : Int32)), .val (.ref br), .val (.int (1 : Int32)), .val (.int (3 : Int32)), .val (.int (1 : Int32)), .val (.int c1)]) rfl ?_
    refine XS.iinc X94.here hx rfl (hb hby d6_35) rfl (l' := #[.val (.ref ar), .val (.int (2 : Int32)), .val (.ref br), .val (.int (2 : Int32)), .val (.int (3 : Int32)), .val (.int (1 : Int32)), .val (.int c1)]) rfl ?_
    refine XS.iinc X94.here hx rfl (hb hby d6_38) rfl (l' := #[.val (.ref ar), .val (.int (2 : Int32)), .val (.ref br), .val (.int (2 : Int32)), .val (.int (3 : Int32)), .val (.int (2 : Int32)), .val (.int c1)]) rfl ?_
    refine XS.goto X94.here hx rfl (pc0 := 41) (pc' := 3) rfl (hb hby d6_41) (by decide) (by decide) ?_
    refine XS.iload X94.here hx rfl (hb hby d6_3) rfl ?_
    refine XS.iload X94.here hx rfl (hb hby d6_5) rfl ?_
    refine XS.icmpNo X94.here hx rfl (hb hby d6_7) rfl (tlt (by decide : ((2 : Int32) < (3 : Int32)))).2.1 ?_
    refine XS.aloadN X94.here hx rfl (hb hby d6_10) rfl rfl ?_
    refine XS.iloadN X94.here hx rfl (hb hby d6_11) rfl ?_
    exact k
  obtain ⟨cl97, Ar97, q97, S97, M97, Ha97, G97⟩ := id Q95
  have hin97 : ¬ ((2 : Int32) < 0 ∨ cl97.slots.size ≤ ((2 : Int32)).toNatClampNeg) := inb_of S97 ⟨by decide, by decide⟩
  refine own_go (X94.caload hx (j := (2 : Int32)) (v := (.int c2)) (by rw [e94]; exact Ar97.1) (State.isArrayOf_alike hZ.alike Ar97.2.1) Ar97.2.2 hin97 (Has.at Ha97 hin97 rfl) (g := (mkF m 12 #[.val (.ref ar), .val (.int (2 : Int32)), .val (.ref br), .val (.int (2 : Int32)), .val (.int (3 : Int32)), .val (.int (2 : Int32)), .val (.int c1)] [(.int (2 : Int32)), (.ref ar)])) rfl rfl (hb hby d6_12)) ?_
  refine own_go (B := T94.setTop (mkF m 20 #[.val (.ref ar), .val (.int (2 : Int32)), .val (.ref br), .val (.int (2 : Int32)), .val (.int (3 : Int32)), .val (.int (2 : Int32)), .val (.int c2)] [(.int (255 : Int32)), (.int c2)])) (fun t k => ?_) ?_
  · refine XS.istore X94.here hx rfl (hb hby d6_13) rfl (l' := #[.val (.ref ar), .val (.int (2 : Int32)), .val (.ref br), .val (.int (2 : Int32)), .val (.int (3 : Int32)), .val (.int (2 : Int32)), .val (.int c2)]) rfl ?_
    refine XS.iload X94.here hx rfl (hb hby d6_15) rfl ?_
    refine XS.sipush X94.here hx rfl (hb hby d6_17) ?_
    exact k
  have hc20_98 : ¬ ((255 : Int32) < c2) := hc2
  refine own_go (B := T94.setTop (mkF m 31 #[.val (.ref ar), .val (.int (2 : Int32)), .val (.ref br), .val (.int (2 : Int32)), .val (.int (3 : Int32)), .val (.int (2 : Int32)), .val (.int c2)] [(.int (c2.toInt8.toInt32)), (.int (2 : Int32)), (.ref br)])) (fun t k => ?_) ?_
  · refine XS.icmpYes X94.here hx rfl (pc0 := 20) (pc' := 26) rfl (hb hby d6_20) rfl (flt hc20_98).2.2.2 (by decide) (by decide) ?_
    refine XS.aloadN X94.here hx rfl (hb hby d6_26) rfl rfl ?_
    refine XS.iloadN X94.here hx rfl (hb hby d6_27) rfl ?_
    refine XS.iload X94.here hx rfl (hb hby d6_28) rfl ?_
    refine XS.i2b X94.here hx rfl (hb hby d6_30) rfl ?_
    exact k
  obtain ⟨cl99, Ar99, q99, S99, M99, Ha99, G99⟩ := U94
  have hin99 : ¬ ((2 : Int32) < 0 ∨ cl99.slots.size ≤ ((2 : Int32)).toNatClampNeg) := inb_of S99 ⟨by decide, by decide⟩
  obtain ⟨T99, h99, X99, e99, W99, st99⟩ := stB X94 hx hZ e94 Ar99 (j := (2 : Int32)) hin99 (g := (mkF m 31 #[.val (.ref ar), .val (.int (2 : Int32)), .val (.ref br), .val (.int (2 : Int32)), .val (.int (3 : Int32)), .val (.int (2 : Int32)), .val (.int c2)] [(.int (c2.toInt8.toInt32)), (.int (2 : Int32)), (.ref br)])) rfl rfl (hb hby d6_31)
  have Q100 : Arv Z h99 ar ka .char (3 : Int32) [(.int c0), (.int c1), (.int c2)] (.int (0 : Int32)) := Q95.other W99 ne_ar_br
  have U99 : Arv Z h99 br kb .byte (3 : Int32) [(.int ((c0.toInt8.toInt32).toInt8.toInt32)), (.int ((c1.toInt8.toInt32).toInt8.toInt32)), (.int ((c2.toInt8.toInt32).toInt8.toInt32))] (.int (0 : Int32)) := Arv.set Ar99 q99 S99 M99 Ha99 G99 (fits_nar_byte _) W99 2 rfl (Nat.le_of_ble_eq_true rfl)
  have Z99 : n0 ≤ h99.size := Nat.le_trans Z94 (Keep.of_wr W99).1
  have N99 := Fr.snoc X99 N94 g_br
  have K99 := K94.wr W99 (Or.inl (List.mem_of_getElem? (i := 0) rfl))
  refine own_go st99 ?_
  refine own_go (B := T99.setTop (mkF m 46 #[.val (.ref ar), .val (.int (3 : Int32)), .val (.ref br), .val (.int (3 : Int32)), .val (.int (3 : Int32)), .val (.int (3 : Int32)), .val (.int c2)] [(.int (3 : Int32))])) (fun t k => ?_) ?_
  · refine XS.iinc X99.here hx rfl (hb hby d6_32) rfl (l' := #[.val (.ref ar), .val (.int (3 : Int32)), .val (.ref br), .val (.int (2 : Int32)), .val (.int (3 : Int32)), .val (.int (2 : Int32)), .val (.int c2)]) rfl ?_
    refine XS.iinc X99.here hx rfl (hb hby d6_35) rfl (l' := #[.val (.ref ar), .val (.int (3 : Int32)), .val (.ref br), .val (.int (3 : Int32)), .val (.int (3 : Int32)), .val (.int (2 : Int32)), .val (.int c2)]) rfl ?_
    refine XS.iinc X99.here hx rfl (hb hby d6_38) rfl (l' := #[.val (.ref ar), .val (.int (3 : Int32)), .val (.ref br), .val (.int (3 : Int32)), .val (.int (3 : Int32)), .val (.int (3 : Int32)), .val (.int c2)]) rfl ?_
    refine XS.goto X99.here hx rfl (pc0 := 41) (pc' := 3) rfl (hb hby d6_41) (by decide) (by decide) ?_
    refine XS.iload X99.here hx rfl (hb hby d6_3) rfl ?_
    refine XS.iload X99.here hx rfl (hb hby d6_5) rfl ?_
    refine XS.icmpYes X99.here hx rfl (pc0 := 7) (pc' := 44) rfl (hb hby d6_7) rfl (flt Int32.lt_irrefl).2.1 (by decide) (by decide) ?_
    refine XS.iload X99.here hx rfl (hb hby d6_44) rfl ?_
    exact k
  obtain ⟨fs, hr, hrun, hended, hW, hsame⟩ := X99.leave (v := some (.int (3 : Int32))) (fun h => by rw [Bd.returns] at h; cases h)
  refine ⟨_, _, ?_, hrun, hended, _, _, rfl, ?_, ⟨_, rfl⟩, hW, hsame.mono (by decide) (by decide)⟩
  · show Steps p.tables e below (T99.setTop (mkF m 46 #[.val (.ref ar), .val (.int (3 : Int32)), .val (.ref br), .val (.int (3 : Int32)), .val (.int (3 : Int32)), .val (.int (3 : Int32)), .val (.int c2)] [(.int (3 : Int32))])) _
    exact retOut X99 hx Bd.returns rfl (Or.inl ⟨rfl, Or.inl rfl, _, rfl⟩) (hb hby d6_46) hr
  · show Qcmp5_3 Z ar br ka kb c0 c1 c2 h0 n0 _ T99.heap _
    rw [e99]
    exact ⟨rfl, N99, K99, U99⟩
def Qcmp3_3 (Z : State) (ar : Addr) (ka : ClassId) (c0 : Int32) (c1 : Int32) (c2 : Int32) (h0 : Heap) (n0 : Nat) (v : Option Value) (h : Heap) (L : List Loc) : Prop := ∃ br : Addr, ∃ kb : ClassId, v = some (.ref br) ∧ Fr n0 L ∧ Keep h0 h [] ∧ h0.size ≤ br ∧ Arv Z h br kb .byte (3 : Int32) [(.int (c0.toInt8.toInt32.toInt8.toInt32)), (.int (c1.toInt8.toInt32.toInt8.toInt32)), (.int (c2.toInt8.toInt32.toInt8.toInt32))] (.int (0 : Int32))
theorem efcmp3_3 (m : MethodId) (x0 : Addr) : entryFrame m #[(.ref x0), (.int (0 : Int32)), (.int (3 : Int32))] 6 = mkF m 0 #[.val (.ref x0), .val (.int (0 : Int32)), .val (.int (3 : Int32)), .unset, .unset, .unset] [] := by first | (simp [entryFrame, mkF, argsToLocals, Value.category]; done) | rfl
set_option maxRecDepth 65536 in
set_option maxHeartbeats 40000000 in
theorem cmp3_3 (l : Launch) (Z : State) (a0 : Array Value) (hw : ∀ d ∈ tables_1, d.before a0 Z = true) (ws : List Jvm.Cond) (ar : Addr) (ka : ClassId) (c0 : Int32) (c1 : Int32) (c2 : Int32) (h0 : Heap) (n0 : Nat) (Z0 : n0 ≤ h0.size) (P0 : Arv Z h0 ar ka .char (3 : Int32) [(.int c0), (.int c1), (.int c2)] (.int (0 : Int32))) (hc0 : ¬ ((255 : Int32) < c0)) (hc1 : ¬ ((255 : Int32) < c1)) (hc2 : ¬ ((255 : Int32) < c2)) :
    MetFree l (⟨"java/lang/StringUTF16", "compress", "([CII)[B"⟩ : MethodName) (head1 (Jvm.Cond.code (⟨"java/lang/StringUTF16", "compress", "([CII)[B"⟩ : MethodName) jdk_52_method_16_code 6 (some (.array .byte)) :: ws) ({ frames := 1, cells := 1, slots := 3, locals := 18 } : Room)) (fun a U => a = #[(.ref ar), (.int (0 : Int32)), (.int (3 : Int32))] ∧ Z.Warmed39 U.vm ∧ U.heap = h0) (fun _ _ _ _ _ => True) (fun _ U o U' => ∃ v L, o = .returned v ∧ Qcmp3_3 Z ar ka c0 c1 c2 h0 n0 v U'.heap L ∧ FrameEnd U o U' L ({ frames := 1, cells := 1, slots := 3, locals := 18 } : Room).cells ({ frames := 1, cells := 1, slots := 3, locals := 18 } : Room).slots) := by
  refine MetFree.of_bodySF (plainFor_of_name pn_0) hisR ?_
  intro p e s m args below meth c s₁ Bd hml0 hP hK
  obtain ⟨rfl, hZ, hh⟩ := hP
  have hx := Bd.exec
  have hby := Bd.bytes
  have hml : c.maxLocals = 6 := hml0
  have hown : s.vm.findClass "java/lang/StringUTF16" = some m.cls := findClass_of_methodNamed Bd.named
  have hnm := (name_of_methodNamed Bd.named Bd.method).1
  have X0 : Stand p l e ({ frames := 1, cells := 1, slots := 3, locals := 18 } : Room) s m #[(.ref ar), (.int (0 : Int32)), (.int (3 : Int32))] below meth c s₁ [] 0 0 := Stand.of_body Bd
  have e0 : s₁.heap = h0 := by rw [← hh, Bd.state]; rfl
  have N0 := Fr.nil n0
  have K0 : Keep h0 h0 [] := Keep.refl h0 _
  refine own_go (B := s₁.setTop (mkF m 0 #[.val (.ref ar), .val (.int (0 : Int32)), .val (.int (3 : Int32)), .unset, .unset, .unset] [])) (fun t k => castTop (efcmp3_3 m ar) k) ?_
  refine own_go (B := s₁.setTop (mkF m 1 #[.val (.ref ar), .val (.int (0 : Int32)), .val (.int (3 : Int32)), .unset, .unset, .unset] [(.int (3 : Int32))])) (fun t k => ?_) ?_
  · refine XS.iloadN X0.here hx rfl (hb hby d5_0) rfl ?_
    exact k
  obtain ⟨T102, h102, k102, X102, e102, E102, A102, st102⟩ := newP X0 hx hZ (own_w hw 7 rfl) e0 (g := (mkF m 1 #[.val (.ref ar), .val (.int (0 : Int32)), .val (.int (3 : Int32)), .unset, .unset, .unset] [(.int (3 : Int32))])) rfl (hb hby d5_1) rfl (by decide) (cap := 3) (by decide) (by decide) (by decide) (by decide)
  obtain ⟨b102, g102⟩ : ∃ z, z = h0.size := ⟨_, rfl⟩
  rw [← g102] at A102 st102
  have ne102_ar : ar ≠ b102 := Nat.ne_of_lt (Nat.lt_of_lt_of_le P0.lt (Nat.le_of_eq g102.symm))
  have low102 : n0 ≤ b102 := Nat.le_trans Z0 (Nat.le_of_eq g102.symm)
  have sz102 : h0.size ≤ b102 := Nat.le_trans K0.1 (Nat.le_of_eq g102.symm)
  have Q103 : Arv Z h102 ar ka .char (3 : Int32) [(.int c0), (.int c1), (.int c2)] (.int (0 : Int32)) := P0.ext E102
  have Z102 : n0 ≤ h102.size := Nat.le_trans Z0 E102.1
  have K102 := K0.ext E102
  have V102 : Arv Z h102 b102 k102 .byte (3 : Int32) [(.int (0 : Int32)), (.int (0 : Int32)), (.int (0 : Int32))] (.int (0 : Int32)) := (Arv.new A102 (by decide)).pad (pad_rep [] (.int (0 : Int32)) 3)
  refine own_go st102 ?_
  refine own_go (B := T102.setTop (mkF m 9 #[.val (.ref ar), .val (.int (0 : Int32)), .val (.int (3 : Int32)), .val (.ref b102), .unset, .unset] [(.int (3 : Int32)), (.int (0 : Int32)), (.ref b102), (.int (0 : Int32)), (.ref ar)])) (fun t k => ?_) ?_
  · refine XS.astoreN X102.here hx rfl (hb hby d5_3) rfl rfl (l' := #[.val (.ref ar), .val (.int (0 : Int32)), .val (.int (3 : Int32)), .val (.ref b102), .unset, .unset]) rfl ?_
    refine XS.aloadN X102.here hx rfl (hb hby d5_4) rfl rfl ?_
    refine XS.iloadN X102.here hx rfl (hb hby d5_5) rfl ?_
    refine XS.aloadN X102.here hx rfl (hb hby d5_6) rfl rfl ?_
    refine XS.iconst X102.here hx rfl (hb hby d5_7) ?_
    refine XS.iloadN X102.here hx rfl (hb hby d5_8) rfl ?_
    exact k
  obtain ⟨_, _, ⟨T104, L104, k104, n104⟩, -, X104, ⟨Lc104, hQ104, l104, y104, z104⟩, st104⟩ := Jvm.LawKit.callS X102 hx (y := (⟨"java/lang/StringUTF16", "compress", "([CI[BII)I"⟩ : MethodName)) hown (mvT hZ (own_w hw 29 rfl)) (mvT hZ (own_w hw 30 rfl)) (mvT hZ (own_w hw 27 rfl)) (mvT hZ (own_w hw 31 rfl)) (by decide) (backOf (W := 0) (cmp5_3 l Z a0 hw [] ar b102 ka k102 c0 c1 c2 h102 n0 Z102 Q103 V102 low102 ne102_ar hc0 hc1 hc2) hZ (own_w hw 31 rfl) (own_w hw 27 rfl) (by decide) (by decide)) (g := (mkF m 9 #[.val (.ref ar), .val (.int (0 : Int32)), .val (.int (3 : Int32)), .val (.ref b102), .unset, .unset] [(.int (3 : Int32)), (.int (0 : Int32)), (.ref b102), (.int (0 : Int32)), (.ref ar)])) rfl (by rw [hml]; rfl) (argsL := [(.ref ar), (.int (0 : Int32)), (.ref b102), (.int (0 : Int32)), (.int (3 : Int32))]) (rest := []) (lenOf pd_0 rfl) rfl (by show 2 * 0 + _ ≤ _; exact Nat.le_of_eq rfl) (hb hby d5_9) (fun _ _ => ⟨rfl, e102, (by decide : 1 + 0 ≤ _), (by decide : 3 + 0 ≤ _)⟩)
  dsimp only [Pt.U, Pt.locs, Pt.cells, Pt.slots] at X104 l104 y104 z104 st104 hQ104
  subst l104 y104 z104
  obtain ⟨rfl, Nq104, Kq104, U104_0⟩ := hQ104
  have Q105 : Arv Z T104.heap ar ka .char (3 : Int32) [(.int c0), (.int c1), (.int c2)] (.int (0 : Int32)) := Q103.keep Kq104 (ninS ne102_ar nin0)
  have Z104 : n0 ≤ T104.heap.size := Nat.le_trans Z102 Kq104.1
  have K104 : Keep h0 T104.heap [] := K102.trans Kq104 (allS (Or.inr sz102) all0)
  have N104 := Fr.app N0 Nq104
  refine own_go (B := T104.setTop (mkF m 12 #[.val (.ref ar), .val (.int (0 : Int32)), .val (.int (3 : Int32)), .val (.ref b102), .unset, .unset] [(.int (3 : Int32))])) st104 ?_
  refine own_go (B := T104.setTop (mkF m 58 #[.val (.ref ar), .val (.int (0 : Int32)), .val (.int (3 : Int32)), .val (.ref b102), .val (.int (3 : Int32)), .unset] [(.ref b102)])) (fun t k => ?_) ?_
  · refine XS.istore X104.here hx rfl (hb hby d5_12) rfl (l' := #[.val (.ref ar), .val (.int (0 : Int32)), .val (.int (3 : Int32)), .val (.ref b102), .val (.int (3 : Int32)), .unset]) rfl ?_
    refine XS.iload X104.here hx rfl (hb hby d5_14) rfl ?_
    refine XS.iloadN X104.here hx rfl (hb hby d5_16) rfl ?_
    refine XS.icmpYes X104.here hx rfl (pc0 := 17) (pc' := 57) rfl (hb hby d5_17) rfl (teq (rfl : (3 : Int32) = (3 : Int32))).1 (by decide) (by decide) ?_
    refine XS.aloadN X104.here hx rfl (hb hby d5_57) rfl rfl ?_
    exact k
  obtain ⟨fs, hr, hrun, hended, hW, hsame⟩ := X104.leave (v := some (.ref b102)) (fun h => by rw [Bd.returns] at h; cases h)
  refine ⟨_, _, ?_, hrun, hended, _, _, rfl, ?_, ⟨_, rfl⟩, hW, hsame.mono (by decide) (by decide)⟩
  · show Steps p.tables e below (T104.setTop (mkF m 58 #[.val (.ref ar), .val (.int (0 : Int32)), .val (.int (3 : Int32)), .val (.ref b102), .val (.int (3 : Int32)), .unset] [(.ref b102)])) _
    exact retOut X104 hx Bd.returns rfl (Or.inr (Or.inr (Or.inr (Or.inr ⟨rfl, rfl, rfl⟩)))) (hb hby d5_58) hr
  · show Qcmp3_3 Z ar ka c0 c1 c2 h0 n0 _ T104.heap _
    skip
    exact ⟨b102, k102, rfl, N104, K104, sz102, U104_0⟩
def Qcfal_3 (Z : State) (br : Addr) (kb : ClassId) (c0 : Int32) (c1 : Int32) (c2 : Int32) (h0 : Heap) (n0 : Nat) (v : Option Value) (h : Heap) (L : List Loc) : Prop := v = some (.int (nar .byte ((0 : Int32).toInt8.toInt32))) ∧ Fr n0 L ∧ h = h0
theorem efcfal_3 (m : MethodId) (x0 : Addr) : entryFrame m #[(.ref x0), (.int (3 : Int32))] 2 = mkF m 0 #[.val (.ref x0), .val (.int (3 : Int32))] [] := by first | (simp [entryFrame, mkF, argsToLocals, Value.category]; done) | rfl
set_option maxRecDepth 65536 in
set_option maxHeartbeats 40000000 in
theorem cfal_3 (l : Launch) (Z : State) (a0 : Array Value) (hw : ∀ d ∈ tables_1, d.before a0 Z = true) (ws : List Jvm.Cond) (br : Addr) (kb : ClassId) (c0 : Int32) (c1 : Int32) (c2 : Int32) (h0 : Heap) (n0 : Nat) (Z0 : n0 ≤ h0.size) (P0 : Arv Z h0 br kb .byte (3 : Int32) [(.int c0), (.int c1), (.int c2)] (.int (0 : Int32))) :
    MetFree l (⟨"java/lang/StringUTF16", "coderFromArrayLen", "([BI)B"⟩ : MethodName) (head1 (Jvm.Cond.code (⟨"java/lang/StringUTF16", "coderFromArrayLen", "([BI)B"⟩ : MethodName) jdk_52_method_15_code 2 (some .byte) :: ws) ({ frames := 0, cells := 0, slots := 0, locals := 0 } : Room)) (fun a U => a = #[(.ref br), (.int (3 : Int32))] ∧ Z.Warmed39 U.vm ∧ U.heap = h0) (fun _ _ _ _ _ => True) (fun _ U o U' => ∃ v L, o = .returned v ∧ Qcfal_3 Z br kb c0 c1 c2 h0 n0 v U'.heap L ∧ FrameEnd U o U' L ({ frames := 0, cells := 0, slots := 0, locals := 0 } : Room).cells ({ frames := 0, cells := 0, slots := 0, locals := 0 } : Room).slots) := by
  refine MetFree.of_bodySF (plainFor_of_name pn_0) hisR ?_
  intro p e s m args below meth c s₁ Bd hml0 hP hK
  obtain ⟨rfl, hZ, hh⟩ := hP
  have hx := Bd.exec
  have hby := Bd.bytes
  have hml : c.maxLocals = 2 := hml0
  have hown : s.vm.findClass "java/lang/StringUTF16" = some m.cls := findClass_of_methodNamed Bd.named
  have hnm := (name_of_methodNamed Bd.named Bd.method).1
  have X0 : Stand p l e ({ frames := 0, cells := 0, slots := 0, locals := 0 } : Room) s m #[(.ref br), (.int (3 : Int32))] below meth c s₁ [] 0 0 := Stand.of_body Bd
  have e0 : s₁.heap = h0 := by rw [← hh, Bd.state]; rfl
  have N0 := Fr.nil n0
  have K0 : Keep h0 h0 [] := Keep.refl h0 _
  refine own_go (B := s₁.setTop (mkF m 0 #[.val (.ref br), .val (.int (3 : Int32))] [])) (fun t k => castTop (efcfal_3 m br) k) ?_
  refine own_go (B := s₁.setTop (mkF m 2 #[.val (.ref br), .val (.int (3 : Int32))] [(.ref br), (.int (3 : Int32))])) (fun t k => ?_) ?_
  · refine XS.iloadN X0.here hx rfl (hb hby d7_0) rfl ?_
    refine XS.aloadN X0.here hx rfl (hb hby d7_1) rfl rfl ?_
    exact k
  obtain ⟨cl107, Ar107, q107, S107, M107, Ha107, G107⟩ := id P0
  refine own_go (B := s₁.setTop (mkF m 3 #[.val (.ref br), .val (.int (3 : Int32))] [(.int (3 : Int32)), (.int (3 : Int32))])) (fun t k => ?_) ?_
  · refine X0.arraylength hx (by rw [e0]; exact Ar107.1) (State.isArrayOf_alike hZ.alike Ar107.2.1) (g := (mkF m 2 #[.val (.ref br), .val (.int (3 : Int32))] [(.ref br), (.int (3 : Int32))])) rfl rfl (hb hby d7_2) _ ?_
    rw [len_of S107 M107]
    exact k
  refine own_go (B := s₁.setTop (mkF m 8 #[.val (.ref br), .val (.int (3 : Int32))] [(.int ((0 : Int32).toInt8.toInt32))])) (fun t k => ?_) ?_
  · refine XS.isub X0.here hx rfl (hb hby d7_3) rfl ?_
    refine XS.bipush X0.here hx rfl (hb hby d7_4) ?_
    refine XS.iushr X0.here hx rfl (hb hby d7_6) rfl ?_
    refine XS.i2b X0.here hx rfl (hb hby d7_7) rfl ?_
    exact k
  obtain ⟨fs, hr, hrun, hended, hW, hsame⟩ := X0.leave (v := some (.int (nar .byte ((0 : Int32).toInt8.toInt32)))) (fun h => by rw [Bd.returns] at h; cases h)
  refine ⟨_, _, ?_, hrun, hended, _, _, rfl, ?_, ⟨_, rfl⟩, hW, hsame.mono (by decide) (by decide)⟩
  · show Steps p.tables e below (s₁.setTop (mkF m 8 #[.val (.ref br), .val (.int (3 : Int32))] [(.int ((0 : Int32).toInt8.toInt32))])) _
    exact retN X0 hx (t := .byte) Bd.returns (by simp) (hb hby d7_8) hr
  · show Qcfal_3 Z br kb c0 c1 c2 h0 n0 _ s₁.heap _
    rw [e0]
    exact ⟨rfl, N0, rfl⟩
def QiniV_3 (Z : State) (oo : Addr) (ar : Addr) (ka : ClassId) (c0 : Int32) (c1 : Int32) (c2 : Int32) (cs : Int32) (h0 : Heap) (n0 : Nat) (v : Option Value) (h : Heap) (L : List Loc) : Prop := v = none ∧ Fr n0 L ∧ Keep h0 h [oo]
theorem efiniV_3 (m : MethodId) (x0 : Addr) (x1 : Addr) : entryFrame m #[(.ref x0), (.ref x1), (.int (0 : Int32)), (.int (3 : Int32)), .null] 6 = mkF m 0 #[.val (.ref x0), .val (.ref x1), .val (.int (0 : Int32)), .val (.int (3 : Int32)), .val .null, .unset] [] := by first | (simp [entryFrame, mkF, argsToLocals, Value.category]; done) | rfl
set_option maxRecDepth 65536 in
set_option maxHeartbeats 40000000 in
theorem iniV_3 (l : Launch) (Z : State) (a0 : Array Value) (hw : ∀ d ∈ tables_1, d.before a0 Z = true) (ws : List Jvm.Cond) (oo : Addr) (ar : Addr) (ka : ClassId) (c0 : Int32) (c1 : Int32) (c2 : Int32) (cs : Int32) (h0 : Heap) (n0 : Nat) (Z0 : n0 ≤ h0.size) (P0 : Exa Z h0 oo "java/lang/String") (P1 : Fld Z h0 oo "java/lang/String" "value" "[B" .null) (P2 : Fld Z h0 oo "java/lang/String" "coder" "B" (.int (0 : Int32))) (P3 : Arv Z h0 ar ka .char (3 : Int32) [(.int c0), (.int c1), (.int c2)] (.int (0 : Int32))) (P4 : Sta Z h0 "java/lang/String" "COMPACT_STRINGS" "Z" (.int cs)) (g_oo : n0 ≤ oo) (ne_oo_ar : oo ≠ ar) (hc0 : ¬ ((255 : Int32) < c0)) (hc1 : ¬ ((255 : Int32) < c1)) (hc2 : ¬ ((255 : Int32) < c2)) (hcs : cs ≠ (0 : Int32)) :
    MetFree l (⟨"java/lang/String", "<init>", "([CIILjava/lang/Void;)V"⟩ : MethodName) (head1 (Jvm.Cond.code (⟨"java/lang/String", "<init>", "([CIILjava/lang/Void;)V"⟩ : MethodName) jdk_42_method_149_code 6 none :: ws) ({ frames := 2, cells := 1, slots := 3, locals := 35 } : Room)) (fun a U => a = #[(.ref oo), (.ref ar), (.int (0 : Int32)), (.int (3 : Int32)), .null] ∧ Z.Warmed39 U.vm ∧ U.heap = h0) (fun _ _ _ _ _ => True) (fun _ U o U' => ∃ v L, o = .returned v ∧ QiniV_3 Z oo ar ka c0 c1 c2 cs h0 n0 v U'.heap L ∧ FrameEnd U o U' L ({ frames := 2, cells := 1, slots := 3, locals := 35 } : Room).cells ({ frames := 2, cells := 1, slots := 3, locals := 35 } : Room).slots) := by
  refine MetFree.of_bodySF (plainFor_of_name pn_1) hisR ?_
  intro p e s m args below meth c s₁ Bd hml0 hP hK
  obtain ⟨rfl, hZ, hh⟩ := hP
  have hx := Bd.exec
  have hby := Bd.bytes
  have hml : c.maxLocals = 6 := hml0
  have hown : s.vm.findClass "java/lang/String" = some m.cls := findClass_of_methodNamed Bd.named
  have hnm := (name_of_methodNamed Bd.named Bd.method).1
  have X0 : Stand p l e ({ frames := 2, cells := 1, slots := 3, locals := 35 } : Room) s m #[(.ref oo), (.ref ar), (.int (0 : Int32)), (.int (3 : Int32)), .null] below meth c s₁ [] 0 0 := Stand.of_body Bd
  have e0 : s₁.heap = h0 := by rw [← hh, Bd.state]; rfl
  have N0 := Fr.nil n0
  have K0 : Keep h0 h0 [oo] := Keep.refl h0 _
  refine own_go (B := s₁.setTop (mkF m 0 #[.val (.ref oo), .val (.ref ar), .val (.int (0 : Int32)), .val (.int (3 : Int32)), .val .null, .unset] [])) (fun t k => castTop (efiniV_3 m oo ar) k) ?_
  refine own_go (B := s₁.setTop (mkF m 1 #[.val (.ref oo), .val (.ref ar), .val (.int (0 : Int32)), .val (.int (3 : Int32)), .val .null, .unset] [(.ref oo)])) (fun t k => ?_) ?_
  · refine XS.aloadN X0.here hx rfl (hb hby d3_0) rfl rfl ?_
    exact k
  obtain ⟨T108, X108, e108, st108⟩ := initO X0 hx hZ hown (own_w hw 21 rfl) (own_w hw 22 rfl) (own_w hw 23 rfl) e0 (g := (mkF m 1 #[.val (.ref oo), .val (.ref ar), .val (.int (0 : Int32)), .val (.int (3 : Int32)), .val .null, .unset] [(.ref oo)])) rfl (by rw [hml]; rfl) rfl (hb hby d3_1) (by decide) (W := 0) (by show 2 * 0 + _ ≤ _; exact Nat.le_of_eq rfl) (by decide)
  refine own_go st108 ?_
  refine own_go (B := T108.setTop (mkF m 27 #[.val (.ref oo), .val (.ref ar), .val (.int (0 : Int32)), .val (.int (3 : Int32)), .val .null, .unset] [])) (fun t k => ?_) ?_
  · refine XS.iloadN X108.here hx rfl (hb hby d3_4) rfl ?_
    refine XS.ifYes X108.here hx rfl (pc0 := 5) (pc' := 27) rfl (hb hby d3_5) rfl ((if0 _ _).trans (feq (by decide : ¬ ((3 : Int32) = (0 : Int32)))).2) (by decide) (by decide) ?_
    exact k
  obtain ⟨T110, X110, e110, st110⟩ := getS2 X108 hx hZ hown (host := "") (Or.inl (own_w hw 24 rfl)) Via.refl e108 P4 (g := (mkF m 27 #[.val (.ref oo), .val (.ref ar), .val (.int (0 : Int32)), .val (.int (3 : Int32)), .val .null, .unset] [])) rfl (hb hby d3_27)
  refine own_go st110 ?_
  have hc30_111 : ¬ (cs = (0 : Int32)) := hcs
  refine own_go (B := T110.setTop (mkF m 36 #[.val (.ref oo), .val (.ref ar), .val (.int (0 : Int32)), .val (.int (3 : Int32)), .val .null, .unset] [(.int (3 : Int32)), (.int (0 : Int32)), (.ref ar)])) (fun t k => ?_) ?_
  · refine XS.ifNo X110.here hx rfl (hb hby d3_30) rfl ((if0 _ _).trans (feq hc30_111).1) ?_
    refine XS.aloadN X110.here hx rfl (hb hby d3_33) rfl rfl ?_
    refine XS.iloadN X110.here hx rfl (hb hby d3_34) rfl ?_
    refine XS.iloadN X110.here hx rfl (hb hby d3_35) rfl ?_
    exact k
  obtain ⟨_, _, ⟨T112, L112, k112, n112⟩, -, X112, ⟨Lc112, hQ112, l112, y112, z112⟩, st112⟩ := Jvm.LawKit.callS X110 hx (y := (⟨"java/lang/StringUTF16", "compress", "([CII)[B"⟩ : MethodName)) hown (mvT hZ (own_w hw 25 rfl)) (mvT hZ (own_w hw 26 rfl)) (mvT hZ (own_w hw 27 rfl)) (mvT hZ (own_w hw 28 rfl)) (by decide) (backOf (W := 0) (cmp3_3 l Z a0 hw [] ar ka c0 c1 c2 h0 n0 Z0 P3 hc0 hc1 hc2) hZ (own_w hw 28 rfl) (own_w hw 27 rfl) (by decide) (by decide)) (g := (mkF m 36 #[.val (.ref oo), .val (.ref ar), .val (.int (0 : Int32)), .val (.int (3 : Int32)), .val .null, .unset] [(.int (3 : Int32)), (.int (0 : Int32)), (.ref ar)])) rfl (by rw [hml]; rfl) (argsL := [(.ref ar), (.int (0 : Int32)), (.int (3 : Int32))]) (rest := []) (lenOf pd_1 rfl) rfl (by show 2 * 0 + _ ≤ _; exact Nat.le_of_eq rfl) (hb hby d3_36) (fun _ _ => ⟨rfl, e110, (by decide : 0 + 1 ≤ _), (by decide : 0 + 3 ≤ _)⟩)
  dsimp only [Pt.U, Pt.locs, Pt.cells, Pt.slots] at X112 l112 y112 z112 st112 hQ112
  subst l112 y112 z112
  obtain ⟨br_112, kb_112, rfl, Nq112, Kq112, sq_br_112, U112_0⟩ := hQ112
  have ne_ar_br_112 : ar ≠ br_112 := Nat.ne_of_lt (Nat.lt_of_lt_of_le P3.lt sq_br_112)
  have ne_oo_br_112 : oo ≠ br_112 := Nat.ne_of_lt (Nat.lt_of_lt_of_le P0.lt sq_br_112)
  have low_br_112 : n0 ≤ br_112 := Nat.le_trans Z0 sq_br_112
  have sz_br_112 : h0.size ≤ br_112 := Nat.le_trans K0.1 sq_br_112
  have Q113 : Exa Z T112.heap oo "java/lang/String" := P0.keep Kq112
  have Q114 : Fld Z T112.heap oo "java/lang/String" "value" "[B" .null := P1.keep Kq112 nin0
  have Q115 : Fld Z T112.heap oo "java/lang/String" "coder" "B" (.int (0 : Int32)) := P2.keep Kq112 nin0
  have Q116 : Arv Z T112.heap ar ka .char (3 : Int32) [(.int c0), (.int c1), (.int c2)] (.int (0 : Int32)) := P3.keep Kq112 nin0
  have Q117 : Sta Z T112.heap "java/lang/String" "COMPACT_STRINGS" "Z" (.int cs) := own_staK P4 Kq112 ns0
  have Z112 : n0 ≤ T112.heap.size := Nat.le_trans Z0 Kq112.1
  have K112 : Keep h0 T112.heap [oo] := K0.trans Kq112 all0
  have N112 := Fr.app N0 Nq112
  refine own_go (B := T112.setTop (mkF m 39 #[.val (.ref oo), .val (.ref ar), .val (.int (0 : Int32)), .val (.int (3 : Int32)), .val .null, .unset] [(.ref br_112)])) st112 ?_
  refine own_go (B := T112.setTop (mkF m 45 #[.val (.ref oo), .val (.ref ar), .val (.int (0 : Int32)), .val (.int (3 : Int32)), .val .null, .val (.ref br_112)] [(.int (3 : Int32)), (.ref br_112), (.ref oo)])) (fun t k => ?_) ?_
  · refine XS.astore X112.here hx rfl (hb hby d3_39) rfl rfl (l' := #[.val (.ref oo), .val (.ref ar), .val (.int (0 : Int32)), .val (.int (3 : Int32)), .val .null, .val (.ref br_112)]) rfl ?_
    refine XS.aloadN X112.here hx rfl (hb hby d3_41) rfl rfl ?_
    refine XS.aload X112.here hx rfl (hb hby d3_42) rfl rfl ?_
    refine XS.iloadN X112.here hx rfl (hb hby d3_44) rfl ?_
    exact k
  obtain ⟨_, _, ⟨T118, L118, k118, n118⟩, -, X118, ⟨Lc118, hQ118, l118, y118, z118⟩, st118⟩ := Jvm.LawKit.callS X112 hx (y := (⟨"java/lang/StringUTF16", "coderFromArrayLen", "([BI)B"⟩ : MethodName)) hown (mvT hZ (own_w hw 32 rfl)) (mvT hZ (own_w hw 33 rfl)) (mvT hZ (own_w hw 27 rfl)) (mvT hZ (own_w hw 34 rfl)) (by decide) (backOf (W := 1) (cfal_3 l Z a0 hw [] br_112 kb_112 (c0.toInt8.toInt32.toInt8.toInt32) (c1.toInt8.toInt32.toInt8.toInt32) (c2.toInt8.toInt32.toInt8.toInt32) T112.heap n0 Z112 U112_0) hZ (own_w hw 34 rfl) (own_w hw 27 rfl) (by decide) (by decide)) (g := (mkF m 45 #[.val (.ref oo), .val (.ref ar), .val (.int (0 : Int32)), .val (.int (3 : Int32)), .val .null, .val (.ref br_112)] [(.int (3 : Int32)), (.ref br_112), (.ref oo)])) rfl (by rw [hml]; rfl) (argsL := [(.ref br_112), (.int (3 : Int32))]) (rest := [(.ref oo)]) (lenOf pd_2 rfl) rfl (by show 2 * 0 + _ ≤ _; exact Nat.le_of_eq rfl) (hb hby d3_45) (fun _ _ => ⟨rfl, rfl, (by decide : 1 + 0 ≤ _), (by decide : 3 + 0 ≤ _)⟩)
  dsimp only [Pt.U, Pt.locs, Pt.cells, Pt.slots] at X118 l118 y118 z118 st118 hQ118
  subst l118 y118 z118
  obtain ⟨rfl, Nq118, e118⟩ := hQ118
  have N118 := Fr.app N112 Nq118
  refine own_go (B := T118.setTop (mkF m 48 #[.val (.ref oo), .val (.ref ar), .val (.int (0 : Int32)), .val (.int (3 : Int32)), .val .null, .val (.ref br_112)] [(.int (nar .byte ((0 : Int32).toInt8.toInt32))), (.ref oo)])) st118 ?_
  obtain ⟨T119, h119, X119, e119, W119, st119⟩ := putFN (v' := (.int (nar .byte (nar .byte ((0 : Int32).toInt8.toInt32))))) X118 hx hZ hown (own_w hw 35 rfl) Via.refl e118 Q115 Q113 (Or.inr ⟨(own_w hw 9 rfl), rfl, hnm⟩) (own_w hw 6 rfl) (ty := .byte) (by decide) rfl (fits_nar_byte _) (g := (mkF m 48 #[.val (.ref oo), .val (.ref ar), .val (.int (0 : Int32)), .val (.int (3 : Int32)), .val .null, .val (.ref br_112)] [(.int (nar .byte ((0 : Int32).toInt8.toInt32))), (.ref oo)])) rfl rfl (hb hby d3_48)
  have Q120 : Exa Z h119 oo "java/lang/String" := Q113.wr W119
  have Q121 : Fld Z h119 oo "java/lang/String" "value" "[B" .null := Q114.other W119 (Or.inr (slot_ne (Or.inr (own_w hw 8 rfl)) (Or.inr (own_w hw 9 rfl)) (by decide) (t := (.array .byte)) (t' := .byte) (by decide) (by decide)))
  have Q122 : Arv Z h119 ar ka .char (3 : Int32) [(.int c0), (.int c1), (.int c2)] (.int (0 : Int32)) := Q116.other W119 (Ne.symm ne_oo_ar)
  have Q123 : Sta Z h119 "java/lang/String" "COMPACT_STRINGS" "Z" (.int cs) := Q117.wr W119
  have Q124 : Arv Z h119 br_112 kb_112 .byte (3 : Int32) [(.int (c0.toInt8.toInt32.toInt8.toInt32)), (.int (c1.toInt8.toInt32.toInt8.toInt32)), (.int (c2.toInt8.toInt32.toInt8.toInt32))] (.int (0 : Int32)) := U112_0.other W119 (Ne.symm ne_oo_br_112)
  have U119 : Fld Z h119 oo "java/lang/String" "coder" "B" (.int (nar .byte (nar .byte ((0 : Int32).toInt8.toInt32)))) := Q115.same W119
  have Z119 : n0 ≤ h119.size := Nat.le_trans Z112 (Keep.of_wr W119).1
  have N119 := Fr.snoc X119 N118 g_oo
  have K119 := K112.wr W119 (Or.inl (List.mem_of_getElem? (i := 0) rfl))
  refine own_go st119 ?_
  refine own_go (B := T119.setTop (mkF m 54 #[.val (.ref oo), .val (.ref ar), .val (.int (0 : Int32)), .val (.int (3 : Int32)), .val .null, .val (.ref br_112)] [(.ref br_112), (.ref oo)])) (fun t k => ?_) ?_
  · refine XS.aloadN X119.here hx rfl (hb hby d3_51) rfl rfl ?_
    refine XS.aload X119.here hx rfl (hb hby d3_52) rfl rfl ?_
    exact k
  obtain ⟨T125, h125, X125, e125, W125, st125⟩ := putF X119 hx hZ hown (host := "") (Or.inl (own_w hw 36 rfl)) Via.refl e119 Q121 Q120 (Or.inr ⟨(own_w hw 8 rfl), rfl, hnm⟩) (own_w hw 6 rfl) (ty := (.array .byte)) (by decide) rfl rfl (g := (mkF m 54 #[.val (.ref oo), .val (.ref ar), .val (.int (0 : Int32)), .val (.int (3 : Int32)), .val .null, .val (.ref br_112)] [(.ref br_112), (.ref oo)])) rfl rfl (hb hby d3_54)
  have Q126 : Exa Z h125 oo "java/lang/String" := Q120.wr W125
  have Q127 : Arv Z h125 ar ka .char (3 : Int32) [(.int c0), (.int c1), (.int c2)] (.int (0 : Int32)) := Q122.other W125 (Ne.symm ne_oo_ar)
  have Q128 : Sta Z h125 "java/lang/String" "COMPACT_STRINGS" "Z" (.int cs) := Q123.wr W125
  have Q129 : Arv Z h125 br_112 kb_112 .byte (3 : Int32) [(.int (c0.toInt8.toInt32.toInt8.toInt32)), (.int (c1.toInt8.toInt32.toInt8.toInt32)), (.int (c2.toInt8.toInt32.toInt8.toInt32))] (.int (0 : Int32)) := Q124.other W125 (Ne.symm ne_oo_br_112)
  have Q130 : Fld Z h125 oo "java/lang/String" "coder" "B" (.int (nar .byte (nar .byte ((0 : Int32).toInt8.toInt32)))) := U119.other W125 (Or.inr (slot_ne (Or.inr (own_w hw 9 rfl)) (Or.inr (own_w hw 8 rfl)) (by decide) (t := .byte) (t' := (.array .byte)) (by decide) (by decide)))
  have U125 : Fld Z h125 oo "java/lang/String" "value" "[B" (.ref br_112) := Q121.same W125
  have Z125 : n0 ≤ h125.size := Nat.le_trans Z119 (Keep.of_wr W125).1
  have N125 := Fr.snoc X125 N119 g_oo
  have K125 := K119.wr W125 (Or.inl (List.mem_of_getElem? (i := 0) rfl))
  refine own_go st125 ?_
  obtain ⟨fs, hr, hrun, hended, hW, hsame⟩ := X125.leave (v := none) (fun _ => rfl)
  refine ⟨_, _, ?_, hrun, hended, _, _, rfl, ?_, ⟨_, rfl⟩, hW, hsame.mono (by decide) (by decide)⟩
  · show Steps p.tables e below (T125.setTop (mkF m 57 #[.val (.ref oo), .val (.ref ar), .val (.int (0 : Int32)), .val (.int (3 : Int32)), .val .null, .val (.ref br_112)] [])) _
    exact X125.returnOut hx Bd.returns (hb hby d3_57) hr
  · show QiniV_3 Z oo ar ka c0 c1 c2 cs h0 n0 _ T125.heap _
    rw [e125]
    exact ⟨rfl, N125, K125⟩
def QiniC_3 (Z : State) (oo : Addr) (ar : Addr) (ka : ClassId) (c0 : Int32) (c1 : Int32) (c2 : Int32) (cs : Int32) (h0 : Heap) (n0 : Nat) (v : Option Value) (h : Heap) (L : List Loc) : Prop := v = none ∧ Fr n0 L ∧ Keep h0 h [oo]
theorem efiniC_3 (m : MethodId) (x0 : Addr) (x1 : Addr) : entryFrame m #[(.ref x0), (.ref x1)] 2 = mkF m 0 #[.val (.ref x0), .val (.ref x1)] [] := by first | (simp [entryFrame, mkF, argsToLocals, Value.category]; done) | rfl
set_option maxRecDepth 65536 in
set_option maxHeartbeats 40000000 in
theorem iniC_3 (l : Launch) (Z : State) (a0 : Array Value) (hw : ∀ d ∈ tables_1, d.before a0 Z = true) (ws : List Jvm.Cond) (oo : Addr) (ar : Addr) (ka : ClassId) (c0 : Int32) (c1 : Int32) (c2 : Int32) (cs : Int32) (h0 : Heap) (n0 : Nat) (Z0 : n0 ≤ h0.size) (P0 : Exa Z h0 oo "java/lang/String") (P1 : Fld Z h0 oo "java/lang/String" "value" "[B" .null) (P2 : Fld Z h0 oo "java/lang/String" "coder" "B" (.int (0 : Int32))) (P3 : Arv Z h0 ar ka .char (3 : Int32) [(.int c0), (.int c1), (.int c2)] (.int (0 : Int32))) (P4 : Sta Z h0 "java/lang/String" "COMPACT_STRINGS" "Z" (.int cs)) (g_oo : n0 ≤ oo) (ne_oo_ar : oo ≠ ar) (hc0 : ¬ ((255 : Int32) < c0)) (hc1 : ¬ ((255 : Int32) < c1)) (hc2 : ¬ ((255 : Int32) < c2)) (hcs : cs ≠ (0 : Int32)) :
    MetFree l (⟨"java/lang/String", "<init>", "([C)V"⟩ : MethodName) (head1 (Jvm.Cond.code (⟨"java/lang/String", "<init>", "([C)V"⟩ : MethodName) jdk_42_method_3_code 2 none :: ws) ({ frames := 3, cells := 1, slots := 3, locals := 52 } : Room)) (fun a U => a = #[(.ref oo), (.ref ar)] ∧ Z.Warmed39 U.vm ∧ U.heap = h0) (fun _ _ _ _ _ => True) (fun _ U o U' => ∃ v L, o = .returned v ∧ QiniC_3 Z oo ar ka c0 c1 c2 cs h0 n0 v U'.heap L ∧ FrameEnd U o U' L ({ frames := 3, cells := 1, slots := 3, locals := 52 } : Room).cells ({ frames := 3, cells := 1, slots := 3, locals := 52 } : Room).slots) := by
  refine MetFree.of_bodySF (plainFor_of_name pn_1) hisR ?_
  intro p e s m args below meth c s₁ Bd hml0 hP hK
  obtain ⟨rfl, hZ, hh⟩ := hP
  have hx := Bd.exec
  have hby := Bd.bytes
  have hml : c.maxLocals = 2 := hml0
  have hown : s.vm.findClass "java/lang/String" = some m.cls := findClass_of_methodNamed Bd.named
  have hnm := (name_of_methodNamed Bd.named Bd.method).1
  have X0 : Stand p l e ({ frames := 3, cells := 1, slots := 3, locals := 52 } : Room) s m #[(.ref oo), (.ref ar)] below meth c s₁ [] 0 0 := Stand.of_body Bd
  have e0 : s₁.heap = h0 := by rw [← hh, Bd.state]; rfl
  have N0 := Fr.nil n0
  have K0 : Keep h0 h0 [oo] := Keep.refl h0 _
  refine own_go (B := s₁.setTop (mkF m 0 #[.val (.ref oo), .val (.ref ar)] [])) (fun t k => castTop (efiniC_3 m oo ar) k) ?_
  refine own_go (B := s₁.setTop (mkF m 4 #[.val (.ref oo), .val (.ref ar)] [(.ref ar), (.int (0 : Int32)), (.ref ar), (.ref oo)])) (fun t k => ?_) ?_
  · refine XS.aloadN X0.here hx rfl (hb hby d2_0) rfl rfl ?_
    refine XS.aloadN X0.here hx rfl (hb hby d2_1) rfl rfl ?_
    refine XS.iconst X0.here hx rfl (hb hby d2_2) ?_
    refine XS.aloadN X0.here hx rfl (hb hby d2_3) rfl rfl ?_
    exact k
  obtain ⟨cl131, Ar131, q131, S131, M131, Ha131, G131⟩ := id P3
  refine own_go (B := s₁.setTop (mkF m 5 #[.val (.ref oo), .val (.ref ar)] [(.int (3 : Int32)), (.int (0 : Int32)), (.ref ar), (.ref oo)])) (fun t k => ?_) ?_
  · refine X0.arraylength hx (by rw [e0]; exact Ar131.1) (State.isArrayOf_alike hZ.alike Ar131.2.1) (g := (mkF m 4 #[.val (.ref oo), .val (.ref ar)] [(.ref ar), (.int (0 : Int32)), (.ref ar), (.ref oo)])) rfl rfl (hb hby d2_4) _ ?_
    rw [len_of S131 M131]
    exact k
  refine own_go (B := s₁.setTop (mkF m 6 #[.val (.ref oo), .val (.ref ar)] [.null, (.int (3 : Int32)), (.int (0 : Int32)), (.ref ar), (.ref oo)])) (fun t k => ?_) ?_
  · refine XS.aconstNull X0.here hx rfl (hb hby d2_5) ?_
    exact k
  obtain ⟨_, _, ⟨T132, L132, k132, n132⟩, -, X132, ⟨Lc132, hQ132, l132, y132, z132⟩, st132⟩ := X0.specialBack hx (y := (⟨"java/lang/String", "<init>", "([CIILjava/lang/Void;)V"⟩ : MethodName)) rfl hown (mvT hZ (own_w hw 17 rfl)) (mvT hZ (own_w hw 18 rfl)) (mvT hZ (own_w hw 20 rfl)) (by decide) (backOf (W := 0) (iniV_3 l Z a0 hw [] oo ar ka c0 c1 c2 cs h0 n0 Z0 P0 P1 P2 P3 P4 g_oo ne_oo_ar hc0 hc1 hc2 hcs) hZ (own_w hw 20 rfl) (own_w hw 5 rfl) (by decide) (by decide)) (g := (mkF m 6 #[.val (.ref oo), .val (.ref ar)] [.null, (.int (3 : Int32)), (.int (0 : Int32)), (.ref ar), (.ref oo)])) rfl (by rw [hml]; rfl) (Steps.refl _) (a := oo) (argsL := [(.ref ar), (.int (0 : Int32)), (.int (3 : Int32)), .null]) (rest := []) (lenOf pd_3 rfl) rfl (by show 2 * 0 + _ ≤ _; exact Nat.le_of_eq rfl) (hb hby d2_6) (fun _ _ => ⟨rfl, e0, (by decide : 0 + 1 ≤ _), (by decide : 0 + 3 ≤ _)⟩)
  dsimp only [Pt.U, Pt.locs, Pt.cells, Pt.slots] at X132 l132 y132 z132 st132 hQ132
  subst l132 y132 z132
  obtain ⟨rfl, Nq132, Kq132⟩ := hQ132
  have Q133 : Exa Z T132.heap oo "java/lang/String" := P0.keep Kq132
  have Q134 : Arv Z T132.heap ar ka .char (3 : Int32) [(.int c0), (.int c1), (.int c2)] (.int (0 : Int32)) := P3.keep Kq132 (ninS (Ne.symm ne_oo_ar) nin0)
  have Q135 : Sta Z T132.heap "java/lang/String" "COMPACT_STRINGS" "Z" (.int cs) := own_staK P4 Kq132 (nsS (own_nsE P0) ns0)
  have Z132 : n0 ≤ T132.heap.size := Nat.le_trans Z0 Kq132.1
  have K132 : Keep h0 T132.heap [oo] := K0.trans Kq132 (allS (Or.inl (List.mem_of_getElem? (i := 0) rfl)) all0)
  have N132 := Fr.app N0 Nq132
  refine own_go (B := T132.setTop (mkF m 9 #[.val (.ref oo), .val (.ref ar)] [])) (fun t k => st132.trans k) ?_
  obtain ⟨fs, hr, hrun, hended, hW, hsame⟩ := X132.leave (v := none) (fun _ => rfl)
  refine ⟨_, _, ?_, hrun, hended, _, _, rfl, ?_, ⟨_, rfl⟩, hW, hsame.mono (by decide) (by decide)⟩
  · show Steps p.tables e below (T132.setTop (mkF m 9 #[.val (.ref oo), .val (.ref ar)] [])) _
    exact X132.returnOut hx Bd.returns (hb hby d2_9) hr
  · show QiniC_3 Z oo ar ka c0 c1 c2 cs h0 n0 _ T132.heap _
    skip
    exact ⟨rfl, N132, K132⟩
def QiniV_0 (Z : State) (oo : Addr) (ar : Addr) (ka : ClassId) (h0 : Heap) (n0 : Nat) (v : Option Value) (h : Heap) (L : List Loc) : Prop := v = none ∧ Fr n0 L ∧ Keep h0 h [oo]
theorem efiniV_0 (m : MethodId) (x0 : Addr) (x1 : Addr) : entryFrame m #[(.ref x0), (.ref x1), (.int (0 : Int32)), (.int (0 : Int32)), .null] 6 = mkF m 0 #[.val (.ref x0), .val (.ref x1), .val (.int (0 : Int32)), .val (.int (0 : Int32)), .val .null, .unset] [] := by first | (simp [entryFrame, mkF, argsToLocals, Value.category]; done) | rfl
set_option maxRecDepth 65536 in
set_option maxHeartbeats 40000000 in
theorem iniV_0 (l : Launch) (Z : State) (a0 : Array Value) (hw : ∀ d ∈ tables_1, d.before a0 Z = true) (ws : List Jvm.Cond) (oo : Addr) (ar : Addr) (ka : ClassId) (h0 : Heap) (n0 : Nat) (Z0 : n0 ≤ h0.size) (hEL : EW Z a0 consts_1) (P0 : Exa Z h0 oo "java/lang/String") (P1 : Fld Z h0 oo "java/lang/String" "value" "[B" .null) (P2 : Fld Z h0 oo "java/lang/String" "coder" "B" (.int (0 : Int32))) (P3 : Arv Z h0 ar ka .char (0 : Int32) [] (.int (0 : Int32))) (g_oo : n0 ≤ oo) (ne_oo_ar : oo ≠ ar) :
    MetFree l (⟨"java/lang/String", "<init>", "([CIILjava/lang/Void;)V"⟩ : MethodName) (head1 (Jvm.Cond.code (⟨"java/lang/String", "<init>", "([CIILjava/lang/Void;)V"⟩ : MethodName) jdk_42_method_149_code 6 none :: ws) ({ frames := 1, cells := 4, slots := 8, locals := 12 } : Room)) (fun a U => a = #[(.ref oo), (.ref ar), (.int (0 : Int32)), (.int (0 : Int32)), .null] ∧ Z.Warmed39 U.vm ∧ U.heap = h0 ∧ CHv Z consts_1 U.vm h0) (fun _ _ _ _ _ => True) (fun _ U o U' => ∃ v L, o = .returned v ∧ QiniV_0 Z oo ar ka h0 n0 v U'.heap L ∧ CHr Z consts_1 U.vm U.heap U'.vm U'.heap ∧ ReturnedEndW U o U' L ({ frames := 1, cells := 4, slots := 8, locals := 12 } : Room).cells ({ frames := 1, cells := 4, slots := 8, locals := 12 } : Room).slots) := by
  refine MetFree.of_bodySF (plainFor_of_name pn_1) hisR ?_
  intro p e s m args below meth c s₁ Bd hml0 hP hK
  obtain ⟨rfl, hZ, hh, hC⟩ := hP
  have hx := Bd.exec
  have hby := Bd.bytes
  have hml : c.maxLocals = 6 := hml0
  have hown : s.vm.findClass "java/lang/String" = some m.cls := findClass_of_methodNamed Bd.named
  have hnm := (name_of_methodNamed Bd.named Bd.method).1
  have X0 : Stand p l e ({ frames := 1, cells := 4, slots := 8, locals := 12 } : Room) (s.setVm s.vm) m #[(.ref oo), (.ref ar), (.int (0 : Int32)), (.int (0 : Int32)), .null] below meth c s₁ [] 0 0 := Stand.of_body Bd
  have e0 : s₁.heap = h0 := by rw [← hh, Bd.state]; rfl
  have N0 := Fr.nil n0
  have K0 : Keep h0 h0 [oo] := Keep.refl h0 _
  have hC0 : CHr Z consts_1 s.vm h0 s.vm h0 := CHr.refl hC
  have hS0 : s.Since s.vm h0.size := (State.WarmedH.refl s).since _
  have hk0 : h0.size ≤ h0.size := Nat.le_refl _
  have sf_oo : Safe Z consts_1 s.vm h0 oo := own_safeS hZ.alike P1 P0
  refine own_go (B := s₁.setTop (mkF m 0 #[.val (.ref oo), .val (.ref ar), .val (.int (0 : Int32)), .val (.int (0 : Int32)), .val .null, .unset] [])) (fun t k => castTop (efiniV_0 m oo ar) k) ?_
  refine own_go (B := s₁.setTop (mkF m 1 #[.val (.ref oo), .val (.ref ar), .val (.int (0 : Int32)), .val (.int (0 : Int32)), .val .null, .unset] [(.ref oo)])) (fun t k => ?_) ?_
  · refine XS.aloadN X0.here hx rfl (hb hby d3_0) rfl rfl ?_
    exact k
  obtain ⟨T136, X136, e136, st136⟩ := initO X0 hx hZ hown (own_w hw 21 rfl) (own_w hw 22 rfl) (own_w hw 23 rfl) e0 (g := (mkF m 1 #[.val (.ref oo), .val (.ref ar), .val (.int (0 : Int32)), .val (.int (0 : Int32)), .val .null, .unset] [(.ref oo)])) rfl (by rw [hml]; rfl) rfl (hb hby d3_1) (by decide) (W := 0) (by show 2 * 0 + _ ≤ _; exact Nat.le_of_eq rfl) (by decide)
  refine own_go st136 ?_
  refine own_go (B := T136.setTop (mkF m 9 #[.val (.ref oo), .val (.ref ar), .val (.int (0 : Int32)), .val (.int (0 : Int32)), .val .null, .unset] [(.ref oo)])) (fun t k => ?_) ?_
  · refine XS.iloadN X136.here hx rfl (hb hby d3_4) rfl ?_
    refine XS.ifNo X136.here hx rfl (hb hby d3_5) rfl ((if0 _ _).trans (teq (rfl : (0 : Int32) = (0 : Int32))).2) ?_
    refine XS.aloadN X136.here hx rfl (hb hby d3_8) rfl rfl ?_
    exact k
  obtain ⟨a138, T138, h138, k1138, b138, kk138, X138, e138, E138, hS138, hkq138, hZ138, hown138, A138, C138, B138, V138, -, -, CHq138, -, -, st138⟩ := ldcCH X136 hx hZ hown (own_w hw 96 rfl) (own_wS hw) e136 hS0 hk0 hEL (List.mem_of_getElem? (i := 1) rfl) hC0.1 (vs := own_vs "") (z := (0 : Int32)) (own_ht "" (by decide)) (by decide) (own_vl "" 0 (by decide) (by decide)) (g := (mkF m 9 #[.val (.ref oo), .val (.ref ar), .val (.int (0 : Int32)), .val (.int (0 : Int32)), .val .null, .unset] [(.ref oo)])) rfl (hb hby d3_9) (n := 0) (by decide) (by decide) (by decide) (by decide)
  have sf138_oo := CHr.safe CHq138 P0.lt sf_oo
  have CH138 := hC0.trans CHq138
  have Q139 : Exa Z h138 oo "java/lang/String" := P0.ext E138
  have Q140 : Fld Z h138 oo "java/lang/String" "value" "[B" .null := P1.ext E138
  have Q141 : Fld Z h138 oo "java/lang/String" "coder" "B" (.int (0 : Int32)) := P2.ext E138
  have Q142 : Arv Z h138 ar ka .char (0 : Int32) [] (.int (0 : Int32)) := P3.ext E138
  have Z138 : n0 ≤ h138.size := Nat.le_trans Z0 E138.1
  have K138 := K0.ext E138
  have hZ := hZ138
  have hown := hown138
  refine own_go st138 ?_
  obtain ⟨T143, X143, e143, st143⟩ := getF X138 hx hZ hown (host := "") (Or.inl (own_w hw 36 rfl)) Via.refl e138 B138 (g := (mkF m 11 #[.val (.ref oo), .val (.ref ar), .val (.int (0 : Int32)), .val (.int (0 : Int32)), .val .null, .unset] [(.ref a138), (.ref oo)])) rfl rfl (hb hby d3_11)
  refine own_go st143 ?_
  obtain ⟨T144, h144, X144, e144, W144, st144⟩ := putF X143 hx hZ hown (host := "") (Or.inl (own_w hw 36 rfl)) Via.refl e143 Q140 Q139 (Or.inr ⟨(own_w hw 8 rfl), rfl, hnm⟩) (own_w hw 6 rfl) (ty := (.array .byte)) (by decide) rfl rfl (g := (mkF m 14 #[.val (.ref oo), .val (.ref ar), .val (.int (0 : Int32)), .val (.int (0 : Int32)), .val .null, .unset] [(.ref b138), (.ref oo)])) rfl rfl (hb hby d3_14)
  have sf144_oo := Safe.wr W144 sf138_oo CH138.1 sf138_oo
  have CH144 := CH138.trans (CHr.wr W144 sf138_oo CH138.1)
  have hk144 := Nat.le_trans hkq138 (Keep.of_wr W144).1
  have Q145 : Exa Z h144 oo "java/lang/String" := Q139.wr W144
  have Q146 : Fld Z h144 oo "java/lang/String" "coder" "B" (.int (0 : Int32)) := Q141.other W144 (Or.inr (slot_ne (Or.inr (own_w hw 9 rfl)) (Or.inr (own_w hw 8 rfl)) (by decide) (t := .byte) (t' := (.array .byte)) (by decide) (by decide)))
  have Q147 : Arv Z h144 ar ka .char (0 : Int32) [] (.int (0 : Int32)) := Q142.other W144 (Ne.symm ne_oo_ar)
  have Q148 : Exa Z h144 a138 "java/lang/String" := A138.wr W144
  have U144 : Fld Z h144 oo "java/lang/String" "value" "[B" (.ref b138) := Q140.same W144
  have Z144 : n0 ≤ h144.size := Nat.le_trans Z138 (Keep.of_wr W144).1
  have N144 := Fr.snoc X144 N0 g_oo
  have K144 := K138.wr W144 (Or.inl (List.mem_of_getElem? (i := 0) rfl))
  refine own_go st144 ?_
  refine own_go (B := T144.setTop (mkF m 18 #[.val (.ref oo), .val (.ref ar), .val (.int (0 : Int32)), .val (.int (0 : Int32)), .val .null, .unset] [(.ref oo)])) (fun t k => ?_) ?_
  · refine XS.aloadN X144.here hx rfl (hb hby d3_17) rfl rfl ?_
    exact k
  obtain ⟨a149, T149, h149, k1149, b149, kk149, X149, e149, E149, hS149, hkq149, hZ149, hown149, A149, C149, B149, V149, -, -, CHq149, -, -, st149⟩ := ldcCH X144 hx hZ hown (own_w hw 96 rfl) (own_wS hw) e144 hS138 hk144 hEL (List.mem_of_getElem? (i := 1) rfl) CH144.1 (vs := own_vs "") (z := (0 : Int32)) (own_ht "" (by decide)) (by decide) (own_vl "" 0 (by decide) (by decide)) (g := (mkF m 18 #[.val (.ref oo), .val (.ref ar), .val (.int (0 : Int32)), .val (.int (0 : Int32)), .val .null, .unset] [(.ref oo)])) rfl (hb hby d3_18) (n := 0) (by decide) (by decide) (by decide) (by decide)
  have sf149_oo := CHr.safe CHq149 Q145.lt sf144_oo
  have CH149 := CH144.trans CHq149
  have Q150 : Exa Z h149 oo "java/lang/String" := Q145.ext E149
  have Q151 : Fld Z h149 oo "java/lang/String" "coder" "B" (.int (0 : Int32)) := Q146.ext E149
  have Q152 : Arv Z h149 ar ka .char (0 : Int32) [] (.int (0 : Int32)) := Q147.ext E149
  have Q153 : Exa Z h149 a138 "java/lang/String" := Q148.ext E149
  have Q154 : Fld Z h149 oo "java/lang/String" "value" "[B" (.ref b138) := U144.ext E149
  have Z149 : n0 ≤ h149.size := Nat.le_trans Z144 E149.1
  have K149 := K144.ext E149
  have hZ := hZ149
  have hown := hown149
  refine own_go st149 ?_
  obtain ⟨T155, X155, e155, st155⟩ := getF X149 hx hZ hown (host := "") (Or.inl (own_w hw 35 rfl)) Via.refl e149 C149 (g := (mkF m 20 #[.val (.ref oo), .val (.ref ar), .val (.int (0 : Int32)), .val (.int (0 : Int32)), .val .null, .unset] [(.ref a149), (.ref oo)])) rfl rfl (hb hby d3_20)
  refine own_go st155 ?_
  obtain ⟨T156, h156, X156, e156, W156, st156⟩ := putFN (v' := (.int (0 : Int32))) X155 hx hZ hown (own_w hw 35 rfl) Via.refl e155 Q151 Q150 (Or.inr ⟨(own_w hw 9 rfl), rfl, hnm⟩) (own_w hw 6 rfl) (ty := .byte) (by decide) rfl rfl (g := (mkF m 23 #[.val (.ref oo), .val (.ref ar), .val (.int (0 : Int32)), .val (.int (0 : Int32)), .val .null, .unset] [(.int (0 : Int32)), (.ref oo)])) rfl rfl (hb hby d3_23)
  have sf156_oo := Safe.wr W156 sf149_oo CH149.1 sf149_oo
  have CH156 := CH149.trans (CHr.wr W156 sf149_oo CH149.1)
  have hk156 := Nat.le_trans hkq149 (Keep.of_wr W156).1
  have Q157 : Exa Z h156 oo "java/lang/String" := Q150.wr W156
  have Q158 : Arv Z h156 ar ka .char (0 : Int32) [] (.int (0 : Int32)) := Q152.other W156 (Ne.symm ne_oo_ar)
  have Q159 : Exa Z h156 a138 "java/lang/String" := Q153.wr W156
  have Q160 : Fld Z h156 oo "java/lang/String" "value" "[B" (.ref b138) := Q154.other W156 (Or.inr (slot_ne (Or.inr (own_w hw 8 rfl)) (Or.inr (own_w hw 9 rfl)) (by decide) (t := (.array .byte)) (t' := .byte) (by decide) (by decide)))
  have Q161 : Exa Z h156 a149 "java/lang/String" := A149.wr W156
  have U156 : Fld Z h156 oo "java/lang/String" "coder" "B" (.int (0 : Int32)) := Q151.same W156
  have Z156 : n0 ≤ h156.size := Nat.le_trans Z149 (Keep.of_wr W156).1
  have N156 := Fr.snoc X156 N144 g_oo
  have K156 := K149.wr W156 (Or.inl (List.mem_of_getElem? (i := 0) rfl))
  refine own_go st156 ?_
  obtain ⟨fs, hr, hrun, hended, hq⟩ := X156.leaveW hS149 (by rw [e156]; exact hk156) (v := none) (fun _ => rfl)
  refine ⟨_, _, ?_, hrun, hended, _, _, rfl, ?_, ?_, hq.1, hq.2.1, hq.2.2.1, hq.2.2.2.mono (by decide) (by decide)⟩
  · show Steps p.tables e below (T156.setTop (mkF m 26 #[.val (.ref oo), .val (.ref ar), .val (.int (0 : Int32)), .val (.int (0 : Int32)), .val .null, .unset] [])) _
    exact X156.returnOut hx Bd.returns (hb hby d3_26) hr
  · show QiniV_0 Z oo ar ka h0 n0 _ T156.heap _
    rw [e156]
    exact ⟨rfl, N156, K156⟩
  · rw [hh]
    show CHr Z consts_1 _ _ T156.vm T156.heap
    rw [e156]
    exact CH156.trans (CHv.at X156 hZ hEL CH156.1)
def QiniC_0 (Z : State) (oo : Addr) (ar : Addr) (ka : ClassId) (h0 : Heap) (n0 : Nat) (v : Option Value) (h : Heap) (L : List Loc) : Prop := v = none ∧ Fr n0 L ∧ Keep h0 h [oo]
theorem efiniC_0 (m : MethodId) (x0 : Addr) (x1 : Addr) : entryFrame m #[(.ref x0), (.ref x1)] 2 = mkF m 0 #[.val (.ref x0), .val (.ref x1)] [] := by first | (simp [entryFrame, mkF, argsToLocals, Value.category]; done) | rfl
set_option maxRecDepth 65536 in
set_option maxHeartbeats 40000000 in
theorem iniC_0 (l : Launch) (Z : State) (a0 : Array Value) (hw : ∀ d ∈ tables_1, d.before a0 Z = true) (ws : List Jvm.Cond) (oo : Addr) (ar : Addr) (ka : ClassId) (h0 : Heap) (n0 : Nat) (Z0 : n0 ≤ h0.size) (hEL : EW Z a0 consts_1) (P0 : Exa Z h0 oo "java/lang/String") (P1 : Fld Z h0 oo "java/lang/String" "value" "[B" .null) (P2 : Fld Z h0 oo "java/lang/String" "coder" "B" (.int (0 : Int32))) (P3 : Arv Z h0 ar ka .char (0 : Int32) [] (.int (0 : Int32))) (g_oo : n0 ≤ oo) (ne_oo_ar : oo ≠ ar) :
    MetFree l (⟨"java/lang/String", "<init>", "([C)V"⟩ : MethodName) (head1 (Jvm.Cond.code (⟨"java/lang/String", "<init>", "([C)V"⟩ : MethodName) jdk_42_method_3_code 2 none :: ws) ({ frames := 2, cells := 4, slots := 8, locals := 29 } : Room)) (fun a U => a = #[(.ref oo), (.ref ar)] ∧ Z.Warmed39 U.vm ∧ U.heap = h0 ∧ CHv Z consts_1 U.vm h0) (fun _ _ _ _ _ => True) (fun _ U o U' => ∃ v L, o = .returned v ∧ QiniC_0 Z oo ar ka h0 n0 v U'.heap L ∧ CHr Z consts_1 U.vm U.heap U'.vm U'.heap ∧ ReturnedEndW U o U' L ({ frames := 2, cells := 4, slots := 8, locals := 29 } : Room).cells ({ frames := 2, cells := 4, slots := 8, locals := 29 } : Room).slots) := by
  refine MetFree.of_bodySF (plainFor_of_name pn_1) hisR ?_
  intro p e s m args below meth c s₁ Bd hml0 hP hK
  obtain ⟨rfl, hZ, hh, hC⟩ := hP
  have hx := Bd.exec
  have hby := Bd.bytes
  have hml : c.maxLocals = 2 := hml0
  have hown : s.vm.findClass "java/lang/String" = some m.cls := findClass_of_methodNamed Bd.named
  have hnm := (name_of_methodNamed Bd.named Bd.method).1
  have X0 : Stand p l e ({ frames := 2, cells := 4, slots := 8, locals := 29 } : Room) (s.setVm s.vm) m #[(.ref oo), (.ref ar)] below meth c s₁ [] 0 0 := Stand.of_body Bd
  have e0 : s₁.heap = h0 := by rw [← hh, Bd.state]; rfl
  have N0 := Fr.nil n0
  have K0 : Keep h0 h0 [oo] := Keep.refl h0 _
  have hC0 : CHr Z consts_1 s.vm h0 s.vm h0 := CHr.refl hC
  have hS0 : s.Since s.vm h0.size := (State.WarmedH.refl s).since _
  have hk0 : h0.size ≤ h0.size := Nat.le_refl _
  have sf_oo : Safe Z consts_1 s.vm h0 oo := own_safeS hZ.alike P1 P0
  refine own_go (B := s₁.setTop (mkF m 0 #[.val (.ref oo), .val (.ref ar)] [])) (fun t k => castTop (efiniC_0 m oo ar) k) ?_
  refine own_go (B := s₁.setTop (mkF m 4 #[.val (.ref oo), .val (.ref ar)] [(.ref ar), (.int (0 : Int32)), (.ref ar), (.ref oo)])) (fun t k => ?_) ?_
  · refine XS.aloadN X0.here hx rfl (hb hby d2_0) rfl rfl ?_
    refine XS.aloadN X0.here hx rfl (hb hby d2_1) rfl rfl ?_
    refine XS.iconst X0.here hx rfl (hb hby d2_2) ?_
    refine XS.aloadN X0.here hx rfl (hb hby d2_3) rfl rfl ?_
    exact k
  obtain ⟨cl162, Ar162, q162, S162, M162, Ha162, G162⟩ := id P3
  refine own_go (B := s₁.setTop (mkF m 5 #[.val (.ref oo), .val (.ref ar)] [(.int (0 : Int32)), (.int (0 : Int32)), (.ref ar), (.ref oo)])) (fun t k => ?_) ?_
  · refine X0.arraylength hx (by rw [e0]; exact Ar162.1) (State.isArrayOf_alike hZ.alike Ar162.2.1) (g := (mkF m 4 #[.val (.ref oo), .val (.ref ar)] [(.ref ar), (.int (0 : Int32)), (.ref ar), (.ref oo)])) rfl rfl (hb hby d2_4) _ ?_
    rw [len_of S162 M162]
    exact k
  refine own_go (B := s₁.setTop (mkF m 6 #[.val (.ref oo), .val (.ref ar)] [.null, (.int (0 : Int32)), (.int (0 : Int32)), (.ref ar), (.ref oo)])) (fun t k => ?_) ?_
  · refine XS.aconstNull X0.here hx rfl (hb hby d2_5) ?_
    exact k
  obtain ⟨_, _, ⟨T163, L163, k163, n163⟩, -, X163, hSq163, gr163, ⟨Lc163, hQ163, l163, y163, z163, CHq163⟩, st163⟩ := X0.specialBackS hx (y := (⟨"java/lang/String", "<init>", "([CIILjava/lang/Void;)V"⟩ : MethodName)) rfl hown (mvT hZ (own_w hw 17 rfl)) (mvT hZ (own_w hw 18 rfl)) (mvT hZ (own_w hw 20 rfl)) (by decide) (backOfSH (W := 0) (s := s) (vm0 := s.vm) (iniV_0 l Z a0 hw [] oo ar ka h0 n0 Z0 hEL P0 P1 P2 P3 g_oo ne_oo_ar) hZ (own_w hw 20 rfl) (own_w hw 5 rfl) (by decide) (by decide) hEL hC0.1) (g := (mkF m 6 #[.val (.ref oo), .val (.ref ar)] [.null, (.int (0 : Int32)), (.int (0 : Int32)), (.ref ar), (.ref oo)])) rfl (by rw [hml]; rfl) (Steps.refl _) (a := oo) (argsL := [(.ref ar), (.int (0 : Int32)), (.int (0 : Int32)), .null]) (rest := []) (lenOf pd_3 rfl) rfl (by show 2 * 0 + _ ≤ _; exact Nat.le_of_eq rfl) (hb hby d2_6) (fun _ _ => ⟨rfl, e0, (by decide : 0 + 4 ≤ _), (by decide : 0 + 8 ≤ _)⟩)
  dsimp only [Pt.U, Pt.locs, Pt.cells, Pt.slots] at X163 l163 y163 z163 st163 hQ163 hSq163 gr163 CHq163
  subst l163 y163 z163
  have sf163_oo := CHr.safe CHq163 P0.lt sf_oo
  have CH163 := hC0.trans CHq163
  have hS163 : s.Since T163.vm T163.heap.size := foldS (T := s₁) hS0 (by rw [e0]; exact hk0) hSq163 gr163
  have hkq163 : T163.heap.size ≤ T163.heap.size := Nat.le_refl _
  have hZ : Z.Warmed39 (s.setVm T163.vm).vm := State.Warmed39.trans (t := s.setVm s.vm) hZ hSq163.1
  have hown : (s.setVm T163.vm).vm.findClass "java/lang/String" = some m.cls := by rw [show (s.setVm T163.vm).vm = T163.vm from rfl, hSq163.1.alike.findClass]; exact hown
  have X163 : Stand p l e ({ frames := 2, cells := 4, slots := 8, locals := 29 } : Room) (s.setVm T163.vm) m #[(.ref oo), (.ref ar)] below meth c T163 _ _ _ := X163
  obtain ⟨rfl, Nq163, Kq163⟩ := hQ163
  have Q164 : Exa Z T163.heap oo "java/lang/String" := P0.keep Kq163
  have Q165 : Arv Z T163.heap ar ka .char (0 : Int32) [] (.int (0 : Int32)) := P3.keep Kq163 (ninS (Ne.symm ne_oo_ar) nin0)
  have Z163 : n0 ≤ T163.heap.size := Nat.le_trans Z0 Kq163.1
  have K163 : Keep h0 T163.heap [oo] := K0.trans Kq163 (allS (Or.inl (List.mem_of_getElem? (i := 0) rfl)) all0)
  have N163 := Fr.app N0 Nq163
  refine own_go (B := T163.setTop (mkF m 9 #[.val (.ref oo), .val (.ref ar)] [])) (fun t k => st163.trans k) ?_
  obtain ⟨fs, hr, hrun, hended, hq⟩ := X163.leaveW hS163 hkq163 (v := none) (fun _ => rfl)
  refine ⟨_, _, ?_, hrun, hended, _, _, rfl, ?_, ?_, hq.1, hq.2.1, hq.2.2.1, hq.2.2.2.mono (by decide) (by decide)⟩
  · show Steps p.tables e below (T163.setTop (mkF m 9 #[.val (.ref oo), .val (.ref ar)] [])) _
    exact X163.returnOut hx Bd.returns (hb hby d2_9) hr
  · show QiniC_0 Z oo ar ka h0 n0 _ T163.heap _
    skip
    exact ⟨rfl, N163, K163⟩
  · rw [hh]
    show CHr Z consts_1 _ _ T163.vm T163.heap
    skip
    exact CH163.trans (CHv.at X163 hZ hEL CH163.1)
def Qelt (Z : State) (xx : Int32) (cs : Int32) (h0 : Heap) (n0 : Nat) (v : Option Value) (h : Heap) (L : List Loc) : Prop := ∃ rr : Addr, v = some (.ref rr) ∧ Fr n0 L ∧ Keep h0 h [] ∧ Exa Z h rr "java/lang/String"
theorem efelt (m : MethodId) (x0 : Int32) : entryFrame m #[(.int x0)] 5 = mkF m 0 #[.val (.int x0), .unset, .unset, .unset, .unset] [] := by first | (simp [entryFrame, mkF, argsToLocals, Value.category]; done) | rfl
set_option maxRecDepth 65536 in
set_option maxHeartbeats 40000000 in
theorem elt (l : Launch) (Z : State) (a0 : Array Value) (hw : ∀ d ∈ tables_1, d.before a0 Z = true) (ws : List Jvm.Cond) (xx : Int32) (cs : Int32) (h0 : Heap) (n0 : Nat) (Z0 : n0 ≤ h0.size) (hEL : EW Z a0 consts_1) (P0 : Sta Z h0 "java/lang/String" "COMPACT_STRINGS" "Z" (.int cs)) (hcs : cs ≠ (0 : Int32)) :
    MetFree l (⟨"com/example/axiomwright/axiomwright/cli/TimingsNonePinLaw", "element", "(I)Ljava/lang/String;"⟩ : MethodName) (head1 (Jvm.Cond.code (⟨"com/example/axiomwright/axiomwright/cli/TimingsNonePinLaw", "element", "(I)Ljava/lang/String;"⟩ : MethodName) method_2_code 5 (some (.object "java/lang/String")) :: ws) ({ frames := 4, cells := 6, slots := 40, locals := 66 } : Room)) (fun a U => a = #[(.int xx)] ∧ Z.Warmed39 U.vm ∧ U.heap = h0 ∧ CHv Z consts_1 U.vm h0) (fun _ _ _ _ _ => True) (fun _ U o U' => ∃ v L, o = .returned v ∧ Qelt Z xx cs h0 n0 v U'.heap L ∧ CHr Z consts_1 U.vm U.heap U'.vm U'.heap ∧ ReturnedEndW U o U' L ({ frames := 4, cells := 6, slots := 40, locals := 66 } : Room).cells ({ frames := 4, cells := 6, slots := 40, locals := 66 } : Room).slots) := by
  refine MetFree.of_bodySF (plainFor_of_name pn_2) hisR ?_
  intro p e s m args below meth c s₁ Bd hml0 hP hK
  obtain ⟨rfl, hZ, hh, hC⟩ := hP
  have hx := Bd.exec
  have hby := Bd.bytes
  have hml : c.maxLocals = 5 := hml0
  have hown : s.vm.findClass "com/example/axiomwright/axiomwright/cli/TimingsNonePinLaw" = some m.cls := findClass_of_methodNamed Bd.named
  have hnm := (name_of_methodNamed Bd.named Bd.method).1
  have X0 : Stand p l e ({ frames := 4, cells := 6, slots := 40, locals := 66 } : Room) (s.setVm s.vm) m #[(.int xx)] below meth c s₁ [] 0 0 := Stand.of_body Bd
  have e0 : s₁.heap = h0 := by rw [← hh, Bd.state]; rfl
  have N0 := Fr.nil n0
  have K0 : Keep h0 h0 [] := Keep.refl h0 _
  have hC0 : CHr Z consts_1 s.vm h0 s.vm h0 := CHr.refl hC
  have hS0 : s.Since s.vm h0.size := (State.WarmedH.refl s).since _
  have hk0 : h0.size ≤ h0.size := Nat.le_refl _
  refine own_go (B := s₁.setTop (mkF m 0 #[.val (.int xx), .unset, .unset, .unset, .unset] [])) (fun t k => castTop (efelt m xx) k) ?_
  refine own_go (B := s₁.setTop (mkF m 3 #[.val (.int xx), .unset, .unset, .unset, .unset] [(.int (xx &&& (1 : Int32)))])) (fun t k => ?_) ?_
  · refine XS.iloadN X0.here hx rfl (hb hby d1_0) rfl ?_
    refine XS.iconst X0.here hx rfl (hb hby d1_1) ?_
    refine XS.iand X0.here hx rfl (hb hby d1_2) rfl ?_
    exact k
  by_cases hc3_166 : (xx &&& (1 : Int32)) = (0 : Int32)
  · refine own_go (B := s₁.setTop (mkF m 9 #[.val (.int xx), .unset, .unset, .unset, .unset] [])) (fun t k => ?_) ?_
    · refine XS.ifYes X0.here hx rfl (pc0 := 3) (pc' := 9) rfl (hb hby d1_3) rfl ((if0 _ _).trans (teq hc3_166).1) (by decide) (by decide) ?_
      exact k
    refine own_go (B := s₁.setTop (mkF m 46 #[.val (.int xx), .val (.int (((xx.toUInt32 >>> ((1 : Int32) &&& 31).toUInt32).toInt32) &&& (3 : Int32))), .val (.int ((((xx.toUInt32 >>> ((3 : Int32) &&& 31).toUInt32).toInt32) &&& (255 : Int32)).toUInt32.toUInt16.toUInt32.toInt32)), .val (.int ((((xx.toUInt32 >>> ((11 : Int32) &&& 31).toUInt32).toInt32) &&& (255 : Int32)).toUInt32.toUInt16.toUInt32.toInt32)), .val (.int ((((xx.toUInt32 >>> ((19 : Int32) &&& 31).toUInt32).toInt32) &&& (255 : Int32)).toUInt32.toUInt16.toUInt32.toInt32))] [(.int (((xx.toUInt32 >>> ((1 : Int32) &&& 31).toUInt32).toInt32) &&& (3 : Int32)))])) (fun t k => ?_) ?_
    · refine XS.iloadN X0.here hx rfl (hb hby d1_9) rfl ?_
      refine XS.iconst X0.here hx rfl (hb hby d1_10) ?_
      refine XS.iushr X0.here hx rfl (hb hby d1_11) rfl ?_
      refine XS.iconst X0.here hx rfl (hb hby d1_12) ?_
      refine XS.iand X0.here hx rfl (hb hby d1_13) rfl ?_
      refine XS.istoreN X0.here hx rfl (hb hby d1_14) rfl (l' := #[.val (.int xx), .val (.int (((xx.toUInt32 >>> ((1 : Int32) &&& 31).toUInt32).toInt32) &&& (3 : Int32))), .unset, .unset, .unset]) rfl ?_
      refine XS.iloadN X0.here hx rfl (hb hby d1_15) rfl ?_
      refine XS.iconst X0.here hx rfl (hb hby d1_16) ?_
      refine XS.iushr X0.here hx rfl (hb hby d1_17) rfl ?_
      refine XS.sipush X0.here hx rfl (hb hby d1_18) ?_
      refine XS.iand X0.here hx rfl (hb hby d1_21) rfl ?_
      refine XS.i2c X0.here hx rfl (hb hby d1_22) rfl ?_
      refine XS.istoreN X0.here hx rfl (hb hby d1_23) rfl (l' := #[.val (.int xx), .val (.int (((xx.toUInt32 >>> ((1 : Int32) &&& 31).toUInt32).toInt32) &&& (3 : Int32))), .val (.int ((((xx.toUInt32 >>> ((3 : Int32) &&& 31).toUInt32).toInt32) &&& (255 : Int32)).toUInt32.toUInt16.toUInt32.toInt32)), .unset, .unset]) rfl ?_
      refine XS.iloadN X0.here hx rfl (hb hby d1_24) rfl ?_
      refine XS.bipush X0.here hx rfl (hb hby d1_25) ?_
      refine XS.iushr X0.here hx rfl (hb hby d1_27) rfl ?_
      refine XS.sipush X0.here hx rfl (hb hby d1_28) ?_
      refine XS.iand X0.here hx rfl (hb hby d1_31) rfl ?_
      refine XS.i2c X0.here hx rfl (hb hby d1_32) rfl ?_
      refine XS.istoreN X0.here hx rfl (hb hby d1_33) rfl (l' := #[.val (.int xx), .val (.int (((xx.toUInt32 >>> ((1 : Int32) &&& 31).toUInt32).toInt32) &&& (3 : Int32))), .val (.int ((((xx.toUInt32 >>> ((3 : Int32) &&& 31).toUInt32).toInt32) &&& (255 : Int32)).toUInt32.toUInt16.toUInt32.toInt32)), .val (.int ((((xx.toUInt32 >>> ((11 : Int32) &&& 31).toUInt32).toInt32) &&& (255 : Int32)).toUInt32.toUInt16.toUInt32.toInt32)), .unset]) rfl ?_
      refine XS.iloadN X0.here hx rfl (hb hby d1_34) rfl ?_
      refine XS.bipush X0.here hx rfl (hb hby d1_35) ?_
      refine XS.iushr X0.here hx rfl (hb hby d1_37) rfl ?_
      refine XS.sipush X0.here hx rfl (hb hby d1_38) ?_
      refine XS.iand X0.here hx rfl (hb hby d1_41) rfl ?_
      refine XS.i2c X0.here hx rfl (hb hby d1_42) rfl ?_
      refine XS.istore X0.here hx rfl (hb hby d1_43) rfl (l' := #[.val (.int xx), .val (.int (((xx.toUInt32 >>> ((1 : Int32) &&& 31).toUInt32).toInt32) &&& (3 : Int32))), .val (.int ((((xx.toUInt32 >>> ((3 : Int32) &&& 31).toUInt32).toInt32) &&& (255 : Int32)).toUInt32.toUInt16.toUInt32.toInt32)), .val (.int ((((xx.toUInt32 >>> ((11 : Int32) &&& 31).toUInt32).toInt32) &&& (255 : Int32)).toUInt32.toUInt16.toUInt32.toInt32)), .val (.int ((((xx.toUInt32 >>> ((19 : Int32) &&& 31).toUInt32).toInt32) &&& (255 : Int32)).toUInt32.toUInt16.toUInt32.toInt32))]) rfl ?_
      refine XS.iloadN X0.here hx rfl (hb hby d1_45) rfl ?_
      exact k
    by_cases hc46_167 : (((xx.toUInt32 >>> ((1 : Int32) &&& 31).toUInt32).toInt32) &&& (3 : Int32)) = (0 : Int32)
    · refine own_go (B := s₁.setTop (mkF m 49 #[.val (.int xx), .val (.int (((xx.toUInt32 >>> ((1 : Int32) &&& 31).toUInt32).toInt32) &&& (3 : Int32))), .val (.int ((((xx.toUInt32 >>> ((3 : Int32) &&& 31).toUInt32).toInt32) &&& (255 : Int32)).toUInt32.toUInt16.toUInt32.toInt32)), .val (.int ((((xx.toUInt32 >>> ((11 : Int32) &&& 31).toUInt32).toInt32) &&& (255 : Int32)).toUInt32.toUInt16.toUInt32.toInt32)), .val (.int ((((xx.toUInt32 >>> ((19 : Int32) &&& 31).toUInt32).toInt32) &&& (255 : Int32)).toUInt32.toUInt16.toUInt32.toInt32))] [])) (fun t k => ?_) ?_
      · refine XS.ifNo X0.here hx rfl (hb hby d1_46) rfl ((if0 _ _).trans (teq hc46_167).2) ?_
        exact k
      obtain ⟨T168, h168, X168, e168, E168, A168, D168, -, st168⟩ := newO X0 hx hZ hown (own_w hw 12 rfl) (own_w hw 6 rfl) (own_w hw 5 rfl) e0 (g := (mkF m 49 #[.val (.int xx), .val (.int (((xx.toUInt32 >>> ((1 : Int32) &&& 31).toUInt32).toInt32) &&& (3 : Int32))), .val (.int ((((xx.toUInt32 >>> ((3 : Int32) &&& 31).toUInt32).toInt32) &&& (255 : Int32)).toUInt32.toUInt16.toUInt32.toInt32)), .val (.int ((((xx.toUInt32 >>> ((11 : Int32) &&& 31).toUInt32).toInt32) &&& (255 : Int32)).toUInt32.toUInt16.toUInt32.toInt32)), .val (.int ((((xx.toUInt32 >>> ((19 : Int32) &&& 31).toUInt32).toInt32) &&& (255 : Int32)).toUInt32.toUInt16.toUInt32.toInt32))] [])) rfl (hb hby d1_49) (by decide) (by decide)
      obtain ⟨b168, g168⟩ : ∃ z, z = h0.size := ⟨_, rfl⟩
      rw [← g168] at A168 D168 st168
      have low168 : n0 ≤ b168 := Nat.le_trans Z0 (Nat.le_of_eq g168.symm)
      have sz168 : h0.size ≤ b168 := Nat.le_trans K0.1 (Nat.le_of_eq g168.symm)
      have sf168_b168 : Safe Z consts_1 _ _ b168 := Safe.ext E168 hC0.1 (Safe.new (Nat.le_of_eq g168.symm))
      have CH168 := hC0.trans (CHr.ext E168 hC0.1)
      have hk168 := Nat.le_trans hk0 E168.1
      have Q169 : Sta Z h168 "java/lang/String" "COMPACT_STRINGS" "Z" (.int cs) := P0.ext E168
      have Z168 : n0 ≤ h168.size := Nat.le_trans Z0 E168.1
      have K168 := K0.ext E168
      have D168_value_String : Fld Z h168 b168 "java/lang/String" "value" "[B" .null := D168 (Or.inr (own_w hw 8 rfl)) (ty := (.array .byte)) (by decide)
      have D168_coder_String : Fld Z h168 b168 "java/lang/String" "coder" "B" (.int (0 : Int32)) := D168 (Or.inr (own_w hw 9 rfl)) (ty := .byte) (by decide)
      refine own_go st168 ?_
      refine own_go (B := T168.setTop (mkF m 54 #[.val (.int xx), .val (.int (((xx.toUInt32 >>> ((1 : Int32) &&& 31).toUInt32).toInt32) &&& (3 : Int32))), .val (.int ((((xx.toUInt32 >>> ((3 : Int32) &&& 31).toUInt32).toInt32) &&& (255 : Int32)).toUInt32.toUInt16.toUInt32.toInt32)), .val (.int ((((xx.toUInt32 >>> ((11 : Int32) &&& 31).toUInt32).toInt32) &&& (255 : Int32)).toUInt32.toUInt16.toUInt32.toInt32)), .val (.int ((((xx.toUInt32 >>> ((19 : Int32) &&& 31).toUInt32).toInt32) &&& (255 : Int32)).toUInt32.toUInt16.toUInt32.toInt32))] [(.int (0 : Int32)), (.ref b168), (.ref b168)])) (fun t k => ?_) ?_
      · refine XS.dup X168.here hx rfl (hb hby d1_52) rfl rfl ?_
        refine XS.iconst X168.here hx rfl (hb hby d1_53) ?_
        exact k
      obtain ⟨T170, h170, k170, X170, e170, E170, A170, st170⟩ := newP X168 hx hZ (own_w hw 13 rfl) e168 (g := (mkF m 54 #[.val (.int xx), .val (.int (((xx.toUInt32 >>> ((1 : Int32) &&& 31).toUInt32).toInt32) &&& (3 : Int32))), .val (.int ((((xx.toUInt32 >>> ((3 : Int32) &&& 31).toUInt32).toInt32) &&& (255 : Int32)).toUInt32.toUInt16.toUInt32.toInt32)), .val (.int ((((xx.toUInt32 >>> ((11 : Int32) &&& 31).toUInt32).toInt32) &&& (255 : Int32)).toUInt32.toUInt16.toUInt32.toInt32)), .val (.int ((((xx.toUInt32 >>> ((19 : Int32) &&& 31).toUInt32).toInt32) &&& (255 : Int32)).toUInt32.toUInt16.toUInt32.toInt32))] [(.int (0 : Int32)), (.ref b168), (.ref b168)])) rfl (hb hby d1_54) rfl (by decide) (cap := 0) (by decide) (by decide) (by decide) (by decide)
      obtain ⟨b170, g170⟩ : ∃ z, z = h168.size := ⟨_, rfl⟩
      rw [← g170] at A170 st170
      have ne170_b168 : b168 ≠ b170 := Nat.ne_of_lt (Nat.lt_of_lt_of_le A168.lt (Nat.le_of_eq g170.symm))
      have low170 : n0 ≤ b170 := Nat.le_trans Z168 (Nat.le_of_eq g170.symm)
      have sz170 : h0.size ≤ b170 := Nat.le_trans K168.1 (Nat.le_of_eq g170.symm)
      have sf170_b168 := Safe.ext E170 CH168.1 sf168_b168
      have sf170_b170 : Safe Z consts_1 _ _ b170 := Safe.ext E170 CH168.1 (Safe.new (Nat.le_of_eq g170.symm))
      have CH170 := CH168.trans (CHr.ext E170 CH168.1)
      have hk170 := Nat.le_trans hk168 E170.1
      have Q171 : Sta Z h170 "java/lang/String" "COMPACT_STRINGS" "Z" (.int cs) := Q169.ext E170
      have Q172 : Exa Z h170 b168 "java/lang/String" := A168.ext E170
      have Q173 : Fld Z h170 b168 "java/lang/String" "value" "[B" .null := D168_value_String.ext E170
      have Q174 : Fld Z h170 b168 "java/lang/String" "coder" "B" (.int (0 : Int32)) := D168_coder_String.ext E170
      have Z170 : n0 ≤ h170.size := Nat.le_trans Z168 E170.1
      have K170 := K168.ext E170
      have V170 : Arv Z h170 b170 k170 .char (0 : Int32) [] (.int (0 : Int32)) := (Arv.new A170 (by decide)).pad (pad_rep [] (.int (0 : Int32)) 0)
      refine own_go st170 ?_
      obtain ⟨_, _, ⟨T175, L175, k175, n175⟩, -, X175, hSq175, gr175, ⟨Lc175, hQ175, l175, y175, z175, CHq175⟩, st175⟩ := X170.specialBackS hx (y := (⟨"java/lang/String", "<init>", "([C)V"⟩ : MethodName)) rfl hown (mvT hZ (own_w hw 14 rfl)) (mvT hZ (own_w hw 15 rfl)) (mvT hZ (own_w hw 16 rfl)) (by decide) (backOfSH (W := 1) (s := s) (vm0 := s.vm) (iniC_0 l Z a0 hw [] b168 b170 k170 h170 n0 Z170 hEL Q172 Q173 Q174 V170 low168 ne170_b168) hZ (own_w hw 16 rfl) (own_w hw 5 rfl) (by decide) (by decide) hEL CH170.1) (g := (mkF m 56 #[.val (.int xx), .val (.int (((xx.toUInt32 >>> ((1 : Int32) &&& 31).toUInt32).toInt32) &&& (3 : Int32))), .val (.int ((((xx.toUInt32 >>> ((3 : Int32) &&& 31).toUInt32).toInt32) &&& (255 : Int32)).toUInt32.toUInt16.toUInt32.toInt32)), .val (.int ((((xx.toUInt32 >>> ((11 : Int32) &&& 31).toUInt32).toInt32) &&& (255 : Int32)).toUInt32.toUInt16.toUInt32.toInt32)), .val (.int ((((xx.toUInt32 >>> ((19 : Int32) &&& 31).toUInt32).toInt32) &&& (255 : Int32)).toUInt32.toUInt16.toUInt32.toInt32))] [(.ref b170), (.ref b168), (.ref b168)])) rfl (by rw [hml]; rfl) (Steps.refl _) (a := b168) (argsL := [(.ref b170)]) (rest := [(.ref b168)]) (lenOf pd_4 rfl) rfl (by show 2 * 0 + _ ≤ _; exact Nat.le_of_eq rfl) (hb hby d1_56) (fun _ _ => ⟨rfl, e170, (by decide : 2 + 4 ≤ _), (by decide : 4 + 8 ≤ _)⟩)
      dsimp only [Pt.U, Pt.locs, Pt.cells, Pt.slots] at X175 l175 y175 z175 st175 hQ175 hSq175 gr175 CHq175
      subst l175 y175 z175
      have sf175_b168 := CHr.safe CHq175 Q172.lt sf170_b168
      have sf175_b170 := CHr.safe CHq175 V170.lt sf170_b170
      have CH175 := CH170.trans CHq175
      have hS175 : s.Since T175.vm T175.heap.size := foldS (T := T170) hS0 (by rw [e170]; exact hk170) hSq175 gr175
      have hkq175 : T175.heap.size ≤ T175.heap.size := Nat.le_refl _
      have hZ : Z.Warmed39 (s.setVm T175.vm).vm := State.Warmed39.trans (t := s.setVm s.vm) hZ hSq175.1
      have hown : (s.setVm T175.vm).vm.findClass "com/example/axiomwright/axiomwright/cli/TimingsNonePinLaw" = some m.cls := by rw [show (s.setVm T175.vm).vm = T175.vm from rfl, hSq175.1.alike.findClass]; exact hown
      have X175 : Stand p l e ({ frames := 4, cells := 6, slots := 40, locals := 66 } : Room) (s.setVm T175.vm) m #[(.int xx)] below meth c T175 _ _ _ := X175
      obtain ⟨rfl, Nq175, Kq175⟩ := hQ175
      have Q176 : Sta Z T175.heap "java/lang/String" "COMPACT_STRINGS" "Z" (.int cs) := own_staK Q171 Kq175 (nsS (own_nsE Q172) ns0)
      have Q177 : Exa Z T175.heap b168 "java/lang/String" := Q172.keep Kq175
      have Q178 : Arv Z T175.heap b170 k170 .char (0 : Int32) [] (.int (0 : Int32)) := V170.keep Kq175 (ninS (Ne.symm ne170_b168) nin0)
      have Z175 : n0 ≤ T175.heap.size := Nat.le_trans Z170 Kq175.1
      have K175 : Keep h0 T175.heap [] := K170.trans Kq175 (allS (Or.inr sz168) all0)
      have N175 := Fr.app N0 Nq175
      refine own_go (B := T175.setTop (mkF m 59 #[.val (.int xx), .val (.int (((xx.toUInt32 >>> ((1 : Int32) &&& 31).toUInt32).toInt32) &&& (3 : Int32))), .val (.int ((((xx.toUInt32 >>> ((3 : Int32) &&& 31).toUInt32).toInt32) &&& (255 : Int32)).toUInt32.toUInt16.toUInt32.toInt32)), .val (.int ((((xx.toUInt32 >>> ((11 : Int32) &&& 31).toUInt32).toInt32) &&& (255 : Int32)).toUInt32.toUInt16.toUInt32.toInt32)), .val (.int ((((xx.toUInt32 >>> ((19 : Int32) &&& 31).toUInt32).toInt32) &&& (255 : Int32)).toUInt32.toUInt16.toUInt32.toInt32))] [(.ref b168)])) (fun t k => st175.trans k) ?_
      obtain ⟨fs, hr, hrun, hended, hq⟩ := X175.leaveW hS175 hkq175 (v := some (.ref b168)) (fun h => by rw [Bd.returns] at h; cases h)
      refine ⟨_, _, ?_, hrun, hended, _, _, rfl, ?_, ?_, hq.1, hq.2.1, hq.2.2.1, hq.2.2.2.mono (by decide) (by decide)⟩
      · show Steps p.tables e below (T175.setTop (mkF m 59 #[.val (.int xx), .val (.int (((xx.toUInt32 >>> ((1 : Int32) &&& 31).toUInt32).toInt32) &&& (3 : Int32))), .val (.int ((((xx.toUInt32 >>> ((3 : Int32) &&& 31).toUInt32).toInt32) &&& (255 : Int32)).toUInt32.toUInt16.toUInt32.toInt32)), .val (.int ((((xx.toUInt32 >>> ((11 : Int32) &&& 31).toUInt32).toInt32) &&& (255 : Int32)).toUInt32.toUInt16.toUInt32.toInt32)), .val (.int ((((xx.toUInt32 >>> ((19 : Int32) &&& 31).toUInt32).toInt32) &&& (255 : Int32)).toUInt32.toUInt16.toUInt32.toInt32))] [(.ref b168)])) _
        exact retOut X175 hx Bd.returns rfl (Or.inr (Or.inr (Or.inr (Or.inr ⟨rfl, rfl, rfl⟩)))) (hb hby d1_59) hr
      · show Qelt Z xx cs h0 n0 _ T175.heap _
        skip
        exact ⟨b168, rfl, N175, K175, Q177⟩
      · rw [hh]
        show CHr Z consts_1 _ _ T175.vm T175.heap
        skip
        exact CH175.trans (CHv.at X175 hZ hEL CH175.1)
    · refine own_go (B := s₁.setTop (mkF m 60 #[.val (.int xx), .val (.int (((xx.toUInt32 >>> ((1 : Int32) &&& 31).toUInt32).toInt32) &&& (3 : Int32))), .val (.int ((((xx.toUInt32 >>> ((3 : Int32) &&& 31).toUInt32).toInt32) &&& (255 : Int32)).toUInt32.toUInt16.toUInt32.toInt32)), .val (.int ((((xx.toUInt32 >>> ((11 : Int32) &&& 31).toUInt32).toInt32) &&& (255 : Int32)).toUInt32.toUInt16.toUInt32.toInt32)), .val (.int ((((xx.toUInt32 >>> ((19 : Int32) &&& 31).toUInt32).toInt32) &&& (255 : Int32)).toUInt32.toUInt16.toUInt32.toInt32))] [])) (fun t k => ?_) ?_
      · refine XS.ifYes X0.here hx rfl (pc0 := 46) (pc' := 60) rfl (hb hby d1_46) rfl ((if0 _ _).trans (feq hc46_167).2) (by decide) (by decide) ?_
        exact k
      refine own_go (B := s₁.setTop (mkF m 62 #[.val (.int xx), .val (.int (((xx.toUInt32 >>> ((1 : Int32) &&& 31).toUInt32).toInt32) &&& (3 : Int32))), .val (.int ((((xx.toUInt32 >>> ((3 : Int32) &&& 31).toUInt32).toInt32) &&& (255 : Int32)).toUInt32.toUInt16.toUInt32.toInt32)), .val (.int ((((xx.toUInt32 >>> ((11 : Int32) &&& 31).toUInt32).toInt32) &&& (255 : Int32)).toUInt32.toUInt16.toUInt32.toInt32)), .val (.int ((((xx.toUInt32 >>> ((19 : Int32) &&& 31).toUInt32).toInt32) &&& (255 : Int32)).toUInt32.toUInt16.toUInt32.toInt32))] [(.int (1 : Int32)), (.int (((xx.toUInt32 >>> ((1 : Int32) &&& 31).toUInt32).toInt32) &&& (3 : Int32)))])) (fun t k => ?_) ?_
      · refine XS.iloadN X0.here hx rfl (hb hby d1_60) rfl ?_
        refine XS.iconst X0.here hx rfl (hb hby d1_61) ?_
        exact k
      by_cases hc62_179 : (((xx.toUInt32 >>> ((1 : Int32) &&& 31).toUInt32).toInt32) &&& (3 : Int32)) = (1 : Int32)
      · refine own_go (B := s₁.setTop (mkF m 65 #[.val (.int xx), .val (.int (((xx.toUInt32 >>> ((1 : Int32) &&& 31).toUInt32).toInt32) &&& (3 : Int32))), .val (.int ((((xx.toUInt32 >>> ((3 : Int32) &&& 31).toUInt32).toInt32) &&& (255 : Int32)).toUInt32.toUInt16.toUInt32.toInt32)), .val (.int ((((xx.toUInt32 >>> ((11 : Int32) &&& 31).toUInt32).toInt32) &&& (255 : Int32)).toUInt32.toUInt16.toUInt32.toInt32)), .val (.int ((((xx.toUInt32 >>> ((19 : Int32) &&& 31).toUInt32).toInt32) &&& (255 : Int32)).toUInt32.toUInt16.toUInt32.toInt32))] [])) (fun t k => ?_) ?_
        · refine XS.icmpNo X0.here hx rfl (hb hby d1_62) rfl (teq hc62_179).2 ?_
          exact k
        obtain ⟨T180, h180, X180, e180, E180, A180, D180, -, st180⟩ := newO X0 hx hZ hown (own_w hw 12 rfl) (own_w hw 6 rfl) (own_w hw 5 rfl) e0 (g := (mkF m 65 #[.val (.int xx), .val (.int (((xx.toUInt32 >>> ((1 : Int32) &&& 31).toUInt32).toInt32) &&& (3 : Int32))), .val (.int ((((xx.toUInt32 >>> ((3 : Int32) &&& 31).toUInt32).toInt32) &&& (255 : Int32)).toUInt32.toUInt16.toUInt32.toInt32)), .val (.int ((((xx.toUInt32 >>> ((11 : Int32) &&& 31).toUInt32).toInt32) &&& (255 : Int32)).toUInt32.toUInt16.toUInt32.toInt32)), .val (.int ((((xx.toUInt32 >>> ((19 : Int32) &&& 31).toUInt32).toInt32) &&& (255 : Int32)).toUInt32.toUInt16.toUInt32.toInt32))] [])) rfl (hb hby d1_65) (by decide) (by decide)
        obtain ⟨b180, g180⟩ : ∃ z, z = h0.size := ⟨_, rfl⟩
        rw [← g180] at A180 D180 st180
        have low180 : n0 ≤ b180 := Nat.le_trans Z0 (Nat.le_of_eq g180.symm)
        have sz180 : h0.size ≤ b180 := Nat.le_trans K0.1 (Nat.le_of_eq g180.symm)
        have sf180_b180 : Safe Z consts_1 _ _ b180 := Safe.ext E180 hC0.1 (Safe.new (Nat.le_of_eq g180.symm))
        have CH180 := hC0.trans (CHr.ext E180 hC0.1)
        have hk180 := Nat.le_trans hk0 E180.1
        have Q181 : Sta Z h180 "java/lang/String" "COMPACT_STRINGS" "Z" (.int cs) := P0.ext E180
        have Z180 : n0 ≤ h180.size := Nat.le_trans Z0 E180.1
        have K180 := K0.ext E180
        have D180_value_String : Fld Z h180 b180 "java/lang/String" "value" "[B" .null := D180 (Or.inr (own_w hw 8 rfl)) (ty := (.array .byte)) (by decide)
        have D180_coder_String : Fld Z h180 b180 "java/lang/String" "coder" "B" (.int (0 : Int32)) := D180 (Or.inr (own_w hw 9 rfl)) (ty := .byte) (by decide)
        refine own_go st180 ?_
        refine own_go (B := T180.setTop (mkF m 70 #[.val (.int xx), .val (.int (((xx.toUInt32 >>> ((1 : Int32) &&& 31).toUInt32).toInt32) &&& (3 : Int32))), .val (.int ((((xx.toUInt32 >>> ((3 : Int32) &&& 31).toUInt32).toInt32) &&& (255 : Int32)).toUInt32.toUInt16.toUInt32.toInt32)), .val (.int ((((xx.toUInt32 >>> ((11 : Int32) &&& 31).toUInt32).toInt32) &&& (255 : Int32)).toUInt32.toUInt16.toUInt32.toInt32)), .val (.int ((((xx.toUInt32 >>> ((19 : Int32) &&& 31).toUInt32).toInt32) &&& (255 : Int32)).toUInt32.toUInt16.toUInt32.toInt32))] [(.int (1 : Int32)), (.ref b180), (.ref b180)])) (fun t k => ?_) ?_
        · refine XS.dup X180.here hx rfl (hb hby d1_68) rfl rfl ?_
          refine XS.iconst X180.here hx rfl (hb hby d1_69) ?_
          exact k
        obtain ⟨T182, h182, k182, X182, e182, E182, A182, st182⟩ := newP X180 hx hZ (own_w hw 13 rfl) e180 (g := (mkF m 70 #[.val (.int xx), .val (.int (((xx.toUInt32 >>> ((1 : Int32) &&& 31).toUInt32).toInt32) &&& (3 : Int32))), .val (.int ((((xx.toUInt32 >>> ((3 : Int32) &&& 31).toUInt32).toInt32) &&& (255 : Int32)).toUInt32.toUInt16.toUInt32.toInt32)), .val (.int ((((xx.toUInt32 >>> ((11 : Int32) &&& 31).toUInt32).toInt32) &&& (255 : Int32)).toUInt32.toUInt16.toUInt32.toInt32)), .val (.int ((((xx.toUInt32 >>> ((19 : Int32) &&& 31).toUInt32).toInt32) &&& (255 : Int32)).toUInt32.toUInt16.toUInt32.toInt32))] [(.int (1 : Int32)), (.ref b180), (.ref b180)])) rfl (hb hby d1_70) rfl (by decide) (cap := 1) (by decide) (by decide) (by decide) (by decide)
        obtain ⟨b182, g182⟩ : ∃ z, z = h180.size := ⟨_, rfl⟩
        rw [← g182] at A182 st182
        have ne182_b180 : b180 ≠ b182 := Nat.ne_of_lt (Nat.lt_of_lt_of_le A180.lt (Nat.le_of_eq g182.symm))
        have low182 : n0 ≤ b182 := Nat.le_trans Z180 (Nat.le_of_eq g182.symm)
        have sz182 : h0.size ≤ b182 := Nat.le_trans K180.1 (Nat.le_of_eq g182.symm)
        have sf182_b180 := Safe.ext E182 CH180.1 sf180_b180
        have sf182_b182 : Safe Z consts_1 _ _ b182 := Safe.ext E182 CH180.1 (Safe.new (Nat.le_of_eq g182.symm))
        have CH182 := CH180.trans (CHr.ext E182 CH180.1)
        have hk182 := Nat.le_trans hk180 E182.1
        have Q183 : Sta Z h182 "java/lang/String" "COMPACT_STRINGS" "Z" (.int cs) := Q181.ext E182
        have Q184 : Exa Z h182 b180 "java/lang/String" := A180.ext E182
        have Q185 : Fld Z h182 b180 "java/lang/String" "value" "[B" .null := D180_value_String.ext E182
        have Q186 : Fld Z h182 b180 "java/lang/String" "coder" "B" (.int (0 : Int32)) := D180_coder_String.ext E182
        have Z182 : n0 ≤ h182.size := Nat.le_trans Z180 E182.1
        have K182 := K180.ext E182
        have V182 : Arv Z h182 b182 k182 .char (1 : Int32) [(.int (0 : Int32))] (.int (0 : Int32)) := (Arv.new A182 (by decide)).pad (pad_rep [] (.int (0 : Int32)) 1)
        refine own_go st182 ?_
        refine own_go (B := T182.setTop (mkF m 75 #[.val (.int xx), .val (.int (((xx.toUInt32 >>> ((1 : Int32) &&& 31).toUInt32).toInt32) &&& (3 : Int32))), .val (.int ((((xx.toUInt32 >>> ((3 : Int32) &&& 31).toUInt32).toInt32) &&& (255 : Int32)).toUInt32.toUInt16.toUInt32.toInt32)), .val (.int ((((xx.toUInt32 >>> ((11 : Int32) &&& 31).toUInt32).toInt32) &&& (255 : Int32)).toUInt32.toUInt16.toUInt32.toInt32)), .val (.int ((((xx.toUInt32 >>> ((19 : Int32) &&& 31).toUInt32).toInt32) &&& (255 : Int32)).toUInt32.toUInt16.toUInt32.toInt32))] [(.int ((((xx.toUInt32 >>> ((3 : Int32) &&& 31).toUInt32).toInt32) &&& (255 : Int32)).toUInt32.toUInt16.toUInt32.toInt32)), (.int (0 : Int32)), (.ref b182), (.ref b182), (.ref b180), (.ref b180)])) (fun t k => ?_) ?_
        · refine XS.dup X182.here hx rfl (hb hby d1_72) rfl rfl ?_
          refine XS.iconst X182.here hx rfl (hb hby d1_73) ?_
          refine XS.iloadN X182.here hx rfl (hb hby d1_74) rfl ?_
          exact k
        obtain ⟨cl187, Ar187, q187, S187, M187, Ha187, G187⟩ := V182
        have hin187 : ¬ ((0 : Int32) < 0 ∨ cl187.slots.size ≤ ((0 : Int32)).toNatClampNeg) := inb_of S187 ⟨by decide, by decide⟩
        obtain ⟨T187, h187, X187, e187, W187, st187⟩ := stC X182 hx hZ e182 Ar187 (j := (0 : Int32)) hin187 (g := (mkF m 75 #[.val (.int xx), .val (.int (((xx.toUInt32 >>> ((1 : Int32) &&& 31).toUInt32).toInt32) &&& (3 : Int32))), .val (.int ((((xx.toUInt32 >>> ((3 : Int32) &&& 31).toUInt32).toInt32) &&& (255 : Int32)).toUInt32.toUInt16.toUInt32.toInt32)), .val (.int ((((xx.toUInt32 >>> ((11 : Int32) &&& 31).toUInt32).toInt32) &&& (255 : Int32)).toUInt32.toUInt16.toUInt32.toInt32)), .val (.int ((((xx.toUInt32 >>> ((19 : Int32) &&& 31).toUInt32).toInt32) &&& (255 : Int32)).toUInt32.toUInt16.toUInt32.toInt32))] [(.int ((((xx.toUInt32 >>> ((3 : Int32) &&& 31).toUInt32).toInt32) &&& (255 : Int32)).toUInt32.toUInt16.toUInt32.toInt32)), (.int (0 : Int32)), (.ref b182), (.ref b182), (.ref b180), (.ref b180)])) rfl rfl (hb hby d1_75)
        have sf187_b180 := Safe.wr W187 sf182_b182 CH182.1 sf182_b180
        have sf187_b182 := Safe.wr W187 sf182_b182 CH182.1 sf182_b182
        have CH187 := CH182.trans (CHr.wr W187 sf182_b182 CH182.1)
        have hk187 := Nat.le_trans hk182 (Keep.of_wr W187).1
        have Q188 : Sta Z h187 "java/lang/String" "COMPACT_STRINGS" "Z" (.int cs) := Q183.wr W187
        have Q189 : Exa Z h187 b180 "java/lang/String" := Q184.wr W187
        have Q190 : Fld Z h187 b180 "java/lang/String" "value" "[B" .null := Q185.other W187 (Or.inl ne182_b180)
        have Q191 : Fld Z h187 b180 "java/lang/String" "coder" "B" (.int (0 : Int32)) := Q186.other W187 (Or.inl ne182_b180)
        have U187 : Arv Z h187 b182 k182 .char (1 : Int32) [(.int (nar .char ((((xx.toUInt32 >>> ((3 : Int32) &&& 31).toUInt32).toInt32) &&& (255 : Int32)).toUInt32.toUInt16.toUInt32.toInt32)))] (.int (0 : Int32)) := Arv.set Ar187 q187 S187 M187 Ha187 G187 (fits_nar_char _) W187 0 rfl (Nat.le_of_ble_eq_true rfl)
        have Z187 : n0 ≤ h187.size := Nat.le_trans Z182 (Keep.of_wr W187).1
        have N187 := Fr.snoc X187 N0 low182
        have K187 := K182.wr W187 (Or.inr sz182)
        refine own_go st187 ?_
        obtain ⟨_, _, ⟨T192, L192, k192, n192⟩, -, X192, ⟨Lc192, hQ192, l192, y192, z192⟩, st192⟩ := X187.specialBack hx (y := (⟨"java/lang/String", "<init>", "([C)V"⟩ : MethodName)) rfl hown (mvT hZ (own_w hw 14 rfl)) (mvT hZ (own_w hw 15 rfl)) (mvT hZ (own_w hw 16 rfl)) (by decide) (backOf (W := 1) (iniC_1 l Z a0 hw [] b180 b182 k182 (nar .char ((((xx.toUInt32 >>> ((3 : Int32) &&& 31).toUInt32).toInt32) &&& (255 : Int32)).toUInt32.toUInt16.toUInt32.toInt32)) cs h187 n0 Z187 Q189 Q190 Q191 U187 Q188 low180 ne182_b180 (own_c255 _) hcs) hZ (own_w hw 16 rfl) (own_w hw 5 rfl) (by decide) (by decide)) (g := (mkF m 76 #[.val (.int xx), .val (.int (((xx.toUInt32 >>> ((1 : Int32) &&& 31).toUInt32).toInt32) &&& (3 : Int32))), .val (.int ((((xx.toUInt32 >>> ((3 : Int32) &&& 31).toUInt32).toInt32) &&& (255 : Int32)).toUInt32.toUInt16.toUInt32.toInt32)), .val (.int ((((xx.toUInt32 >>> ((11 : Int32) &&& 31).toUInt32).toInt32) &&& (255 : Int32)).toUInt32.toUInt16.toUInt32.toInt32)), .val (.int ((((xx.toUInt32 >>> ((19 : Int32) &&& 31).toUInt32).toInt32) &&& (255 : Int32)).toUInt32.toUInt16.toUInt32.toInt32))] [(.ref b182), (.ref b180), (.ref b180)])) rfl (by rw [hml]; rfl) (Steps.refl _) (a := b180) (argsL := [(.ref b182)]) (rest := [(.ref b180)]) (lenOf pd_4 rfl) rfl (by show 2 * 0 + _ ≤ _; exact Nat.le_of_eq rfl) (hb hby d1_76) (fun _ _ => ⟨rfl, e187, (by decide : 2 + 1 ≤ _), (by decide : 5 + 1 ≤ _)⟩)
        dsimp only [Pt.U, Pt.locs, Pt.cells, Pt.slots] at X192 l192 y192 z192 st192 hQ192
        subst l192 y192 z192
        obtain ⟨rfl, Nq192, Kq192⟩ := hQ192
        have sf192_b180 := Safe.keep Kq192 (sfS sf187_b180 sf0) CH187.1 sf187_b180
        have sf192_b182 := Safe.keep Kq192 (sfS sf187_b180 sf0) CH187.1 sf187_b182
        have CH192 := CH187.trans (CHr.keep Kq192 (sfS sf187_b180 sf0) CH187.1)
        have hk192 := Nat.le_trans hk187 Kq192.1
        have Q193 : Sta Z T192.heap "java/lang/String" "COMPACT_STRINGS" "Z" (.int cs) := own_staK Q188 Kq192 (nsS (own_nsE Q189) ns0)
        have Q194 : Exa Z T192.heap b180 "java/lang/String" := Q189.keep Kq192
        have Q195 : Arv Z T192.heap b182 k182 .char (1 : Int32) [(.int (nar .char ((((xx.toUInt32 >>> ((3 : Int32) &&& 31).toUInt32).toInt32) &&& (255 : Int32)).toUInt32.toUInt16.toUInt32.toInt32)))] (.int (0 : Int32)) := U187.keep Kq192 (ninS (Ne.symm ne182_b180) nin0)
        have Z192 : n0 ≤ T192.heap.size := Nat.le_trans Z187 Kq192.1
        have K192 : Keep h0 T192.heap [] := K187.trans Kq192 (allS (Or.inr sz180) all0)
        have N192 := Fr.app N187 Nq192
        refine own_go (B := T192.setTop (mkF m 79 #[.val (.int xx), .val (.int (((xx.toUInt32 >>> ((1 : Int32) &&& 31).toUInt32).toInt32) &&& (3 : Int32))), .val (.int ((((xx.toUInt32 >>> ((3 : Int32) &&& 31).toUInt32).toInt32) &&& (255 : Int32)).toUInt32.toUInt16.toUInt32.toInt32)), .val (.int ((((xx.toUInt32 >>> ((11 : Int32) &&& 31).toUInt32).toInt32) &&& (255 : Int32)).toUInt32.toUInt16.toUInt32.toInt32)), .val (.int ((((xx.toUInt32 >>> ((19 : Int32) &&& 31).toUInt32).toInt32) &&& (255 : Int32)).toUInt32.toUInt16.toUInt32.toInt32))] [(.ref b180)])) (fun t k => st192.trans k) ?_
        obtain ⟨fs, hr, hrun, hended, hq⟩ := X192.leaveW hS0 hk192 (v := some (.ref b180)) (fun h => by rw [Bd.returns] at h; cases h)
        refine ⟨_, _, ?_, hrun, hended, _, _, rfl, ?_, ?_, hq.1, hq.2.1, hq.2.2.1, hq.2.2.2.mono (by decide) (by decide)⟩
        · show Steps p.tables e below (T192.setTop (mkF m 79 #[.val (.int xx), .val (.int (((xx.toUInt32 >>> ((1 : Int32) &&& 31).toUInt32).toInt32) &&& (3 : Int32))), .val (.int ((((xx.toUInt32 >>> ((3 : Int32) &&& 31).toUInt32).toInt32) &&& (255 : Int32)).toUInt32.toUInt16.toUInt32.toInt32)), .val (.int ((((xx.toUInt32 >>> ((11 : Int32) &&& 31).toUInt32).toInt32) &&& (255 : Int32)).toUInt32.toUInt16.toUInt32.toInt32)), .val (.int ((((xx.toUInt32 >>> ((19 : Int32) &&& 31).toUInt32).toInt32) &&& (255 : Int32)).toUInt32.toUInt16.toUInt32.toInt32))] [(.ref b180)])) _
          exact retOut X192 hx Bd.returns rfl (Or.inr (Or.inr (Or.inr (Or.inr ⟨rfl, rfl, rfl⟩)))) (hb hby d1_79) hr
        · show Qelt Z xx cs h0 n0 _ T192.heap _
          skip
          exact ⟨b180, rfl, N192, K192, Q194⟩
        · rw [hh]
          show CHr Z consts_1 _ _ T192.vm T192.heap
          skip
          exact CH192.trans (CHv.at X192 hZ hEL CH192.1)
      · refine own_go (B := s₁.setTop (mkF m 80 #[.val (.int xx), .val (.int (((xx.toUInt32 >>> ((1 : Int32) &&& 31).toUInt32).toInt32) &&& (3 : Int32))), .val (.int ((((xx.toUInt32 >>> ((3 : Int32) &&& 31).toUInt32).toInt32) &&& (255 : Int32)).toUInt32.toUInt16.toUInt32.toInt32)), .val (.int ((((xx.toUInt32 >>> ((11 : Int32) &&& 31).toUInt32).toInt32) &&& (255 : Int32)).toUInt32.toUInt16.toUInt32.toInt32)), .val (.int ((((xx.toUInt32 >>> ((19 : Int32) &&& 31).toUInt32).toInt32) &&& (255 : Int32)).toUInt32.toUInt16.toUInt32.toInt32))] [])) (fun t k => ?_) ?_
        · refine XS.icmpYes X0.here hx rfl (pc0 := 62) (pc' := 80) rfl (hb hby d1_62) rfl (feq hc62_179).2 (by decide) (by decide) ?_
          exact k
        refine own_go (B := s₁.setTop (mkF m 82 #[.val (.int xx), .val (.int (((xx.toUInt32 >>> ((1 : Int32) &&& 31).toUInt32).toInt32) &&& (3 : Int32))), .val (.int ((((xx.toUInt32 >>> ((3 : Int32) &&& 31).toUInt32).toInt32) &&& (255 : Int32)).toUInt32.toUInt16.toUInt32.toInt32)), .val (.int ((((xx.toUInt32 >>> ((11 : Int32) &&& 31).toUInt32).toInt32) &&& (255 : Int32)).toUInt32.toUInt16.toUInt32.toInt32)), .val (.int ((((xx.toUInt32 >>> ((19 : Int32) &&& 31).toUInt32).toInt32) &&& (255 : Int32)).toUInt32.toUInt16.toUInt32.toInt32))] [(.int (2 : Int32)), (.int (((xx.toUInt32 >>> ((1 : Int32) &&& 31).toUInt32).toInt32) &&& (3 : Int32)))])) (fun t k => ?_) ?_
        · refine XS.iloadN X0.here hx rfl (hb hby d1_80) rfl ?_
          refine XS.iconst X0.here hx rfl (hb hby d1_81) ?_
          exact k
        by_cases hc82_196 : (((xx.toUInt32 >>> ((1 : Int32) &&& 31).toUInt32).toInt32) &&& (3 : Int32)) = (2 : Int32)
        · refine own_go (B := s₁.setTop (mkF m 85 #[.val (.int xx), .val (.int (((xx.toUInt32 >>> ((1 : Int32) &&& 31).toUInt32).toInt32) &&& (3 : Int32))), .val (.int ((((xx.toUInt32 >>> ((3 : Int32) &&& 31).toUInt32).toInt32) &&& (255 : Int32)).toUInt32.toUInt16.toUInt32.toInt32)), .val (.int ((((xx.toUInt32 >>> ((11 : Int32) &&& 31).toUInt32).toInt32) &&& (255 : Int32)).toUInt32.toUInt16.toUInt32.toInt32)), .val (.int ((((xx.toUInt32 >>> ((19 : Int32) &&& 31).toUInt32).toInt32) &&& (255 : Int32)).toUInt32.toUInt16.toUInt32.toInt32))] [])) (fun t k => ?_) ?_
          · refine XS.icmpNo X0.here hx rfl (hb hby d1_82) rfl (teq hc82_196).2 ?_
            exact k
          obtain ⟨T197, h197, X197, e197, E197, A197, D197, -, st197⟩ := newO X0 hx hZ hown (own_w hw 12 rfl) (own_w hw 6 rfl) (own_w hw 5 rfl) e0 (g := (mkF m 85 #[.val (.int xx), .val (.int (((xx.toUInt32 >>> ((1 : Int32) &&& 31).toUInt32).toInt32) &&& (3 : Int32))), .val (.int ((((xx.toUInt32 >>> ((3 : Int32) &&& 31).toUInt32).toInt32) &&& (255 : Int32)).toUInt32.toUInt16.toUInt32.toInt32)), .val (.int ((((xx.toUInt32 >>> ((11 : Int32) &&& 31).toUInt32).toInt32) &&& (255 : Int32)).toUInt32.toUInt16.toUInt32.toInt32)), .val (.int ((((xx.toUInt32 >>> ((19 : Int32) &&& 31).toUInt32).toInt32) &&& (255 : Int32)).toUInt32.toUInt16.toUInt32.toInt32))] [])) rfl (hb hby d1_85) (by decide) (by decide)
          obtain ⟨b197, g197⟩ : ∃ z, z = h0.size := ⟨_, rfl⟩
          rw [← g197] at A197 D197 st197
          have low197 : n0 ≤ b197 := Nat.le_trans Z0 (Nat.le_of_eq g197.symm)
          have sz197 : h0.size ≤ b197 := Nat.le_trans K0.1 (Nat.le_of_eq g197.symm)
          have sf197_b197 : Safe Z consts_1 _ _ b197 := Safe.ext E197 hC0.1 (Safe.new (Nat.le_of_eq g197.symm))
          have CH197 := hC0.trans (CHr.ext E197 hC0.1)
          have hk197 := Nat.le_trans hk0 E197.1
          have Q198 : Sta Z h197 "java/lang/String" "COMPACT_STRINGS" "Z" (.int cs) := P0.ext E197
          have Z197 : n0 ≤ h197.size := Nat.le_trans Z0 E197.1
          have K197 := K0.ext E197
          have D197_value_String : Fld Z h197 b197 "java/lang/String" "value" "[B" .null := D197 (Or.inr (own_w hw 8 rfl)) (ty := (.array .byte)) (by decide)
          have D197_coder_String : Fld Z h197 b197 "java/lang/String" "coder" "B" (.int (0 : Int32)) := D197 (Or.inr (own_w hw 9 rfl)) (ty := .byte) (by decide)
          refine own_go st197 ?_
          refine own_go (B := T197.setTop (mkF m 90 #[.val (.int xx), .val (.int (((xx.toUInt32 >>> ((1 : Int32) &&& 31).toUInt32).toInt32) &&& (3 : Int32))), .val (.int ((((xx.toUInt32 >>> ((3 : Int32) &&& 31).toUInt32).toInt32) &&& (255 : Int32)).toUInt32.toUInt16.toUInt32.toInt32)), .val (.int ((((xx.toUInt32 >>> ((11 : Int32) &&& 31).toUInt32).toInt32) &&& (255 : Int32)).toUInt32.toUInt16.toUInt32.toInt32)), .val (.int ((((xx.toUInt32 >>> ((19 : Int32) &&& 31).toUInt32).toInt32) &&& (255 : Int32)).toUInt32.toUInt16.toUInt32.toInt32))] [(.int (2 : Int32)), (.ref b197), (.ref b197)])) (fun t k => ?_) ?_
          · refine XS.dup X197.here hx rfl (hb hby d1_88) rfl rfl ?_
            refine XS.iconst X197.here hx rfl (hb hby d1_89) ?_
            exact k
          obtain ⟨T199, h199, k199, X199, e199, E199, A199, st199⟩ := newP X197 hx hZ (own_w hw 13 rfl) e197 (g := (mkF m 90 #[.val (.int xx), .val (.int (((xx.toUInt32 >>> ((1 : Int32) &&& 31).toUInt32).toInt32) &&& (3 : Int32))), .val (.int ((((xx.toUInt32 >>> ((3 : Int32) &&& 31).toUInt32).toInt32) &&& (255 : Int32)).toUInt32.toUInt16.toUInt32.toInt32)), .val (.int ((((xx.toUInt32 >>> ((11 : Int32) &&& 31).toUInt32).toInt32) &&& (255 : Int32)).toUInt32.toUInt16.toUInt32.toInt32)), .val (.int ((((xx.toUInt32 >>> ((19 : Int32) &&& 31).toUInt32).toInt32) &&& (255 : Int32)).toUInt32.toUInt16.toUInt32.toInt32))] [(.int (2 : Int32)), (.ref b197), (.ref b197)])) rfl (hb hby d1_90) rfl (by decide) (cap := 2) (by decide) (by decide) (by decide) (by decide)
          obtain ⟨b199, g199⟩ : ∃ z, z = h197.size := ⟨_, rfl⟩
          rw [← g199] at A199 st199
          have ne199_b197 : b197 ≠ b199 := Nat.ne_of_lt (Nat.lt_of_lt_of_le A197.lt (Nat.le_of_eq g199.symm))
          have low199 : n0 ≤ b199 := Nat.le_trans Z197 (Nat.le_of_eq g199.symm)
          have sz199 : h0.size ≤ b199 := Nat.le_trans K197.1 (Nat.le_of_eq g199.symm)
          have sf199_b197 := Safe.ext E199 CH197.1 sf197_b197
          have sf199_b199 : Safe Z consts_1 _ _ b199 := Safe.ext E199 CH197.1 (Safe.new (Nat.le_of_eq g199.symm))
          have CH199 := CH197.trans (CHr.ext E199 CH197.1)
          have hk199 := Nat.le_trans hk197 E199.1
          have Q200 : Sta Z h199 "java/lang/String" "COMPACT_STRINGS" "Z" (.int cs) := Q198.ext E199
          have Q201 : Exa Z h199 b197 "java/lang/String" := A197.ext E199
          have Q202 : Fld Z h199 b197 "java/lang/String" "value" "[B" .null := D197_value_String.ext E199
          have Q203 : Fld Z h199 b197 "java/lang/String" "coder" "B" (.int (0 : Int32)) := D197_coder_String.ext E199
          have Z199 : n0 ≤ h199.size := Nat.le_trans Z197 E199.1
          have K199 := K197.ext E199
          have V199 : Arv Z h199 b199 k199 .char (2 : Int32) [(.int (0 : Int32)), (.int (0 : Int32))] (.int (0 : Int32)) := (Arv.new A199 (by decide)).pad (pad_rep [] (.int (0 : Int32)) 2)
          refine own_go st199 ?_
          refine own_go (B := T199.setTop (mkF m 95 #[.val (.int xx), .val (.int (((xx.toUInt32 >>> ((1 : Int32) &&& 31).toUInt32).toInt32) &&& (3 : Int32))), .val (.int ((((xx.toUInt32 >>> ((3 : Int32) &&& 31).toUInt32).toInt32) &&& (255 : Int32)).toUInt32.toUInt16.toUInt32.toInt32)), .val (.int ((((xx.toUInt32 >>> ((11 : Int32) &&& 31).toUInt32).toInt32) &&& (255 : Int32)).toUInt32.toUInt16.toUInt32.toInt32)), .val (.int ((((xx.toUInt32 >>> ((19 : Int32) &&& 31).toUInt32).toInt32) &&& (255 : Int32)).toUInt32.toUInt16.toUInt32.toInt32))] [(.int ((((xx.toUInt32 >>> ((3 : Int32) &&& 31).toUInt32).toInt32) &&& (255 : Int32)).toUInt32.toUInt16.toUInt32.toInt32)), (.int (0 : Int32)), (.ref b199), (.ref b199), (.ref b197), (.ref b197)])) (fun t k => ?_) ?_
          · refine XS.dup X199.here hx rfl (hb hby d1_92) rfl rfl ?_
            refine XS.iconst X199.here hx rfl (hb hby d1_93) ?_
            refine XS.iloadN X199.here hx rfl (hb hby d1_94) rfl ?_
            exact k
          obtain ⟨cl204, Ar204, q204, S204, M204, Ha204, G204⟩ := V199
          have hin204 : ¬ ((0 : Int32) < 0 ∨ cl204.slots.size ≤ ((0 : Int32)).toNatClampNeg) := inb_of S204 ⟨by decide, by decide⟩
          obtain ⟨T204, h204, X204, e204, W204, st204⟩ := stC X199 hx hZ e199 Ar204 (j := (0 : Int32)) hin204 (g := (mkF m 95 #[.val (.int xx), .val (.int (((xx.toUInt32 >>> ((1 : Int32) &&& 31).toUInt32).toInt32) &&& (3 : Int32))), .val (.int ((((xx.toUInt32 >>> ((3 : Int32) &&& 31).toUInt32).toInt32) &&& (255 : Int32)).toUInt32.toUInt16.toUInt32.toInt32)), .val (.int ((((xx.toUInt32 >>> ((11 : Int32) &&& 31).toUInt32).toInt32) &&& (255 : Int32)).toUInt32.toUInt16.toUInt32.toInt32)), .val (.int ((((xx.toUInt32 >>> ((19 : Int32) &&& 31).toUInt32).toInt32) &&& (255 : Int32)).toUInt32.toUInt16.toUInt32.toInt32))] [(.int ((((xx.toUInt32 >>> ((3 : Int32) &&& 31).toUInt32).toInt32) &&& (255 : Int32)).toUInt32.toUInt16.toUInt32.toInt32)), (.int (0 : Int32)), (.ref b199), (.ref b199), (.ref b197), (.ref b197)])) rfl rfl (hb hby d1_95)
          have sf204_b197 := Safe.wr W204 sf199_b199 CH199.1 sf199_b197
          have sf204_b199 := Safe.wr W204 sf199_b199 CH199.1 sf199_b199
          have CH204 := CH199.trans (CHr.wr W204 sf199_b199 CH199.1)
          have hk204 := Nat.le_trans hk199 (Keep.of_wr W204).1
          have Q205 : Sta Z h204 "java/lang/String" "COMPACT_STRINGS" "Z" (.int cs) := Q200.wr W204
          have Q206 : Exa Z h204 b197 "java/lang/String" := Q201.wr W204
          have Q207 : Fld Z h204 b197 "java/lang/String" "value" "[B" .null := Q202.other W204 (Or.inl ne199_b197)
          have Q208 : Fld Z h204 b197 "java/lang/String" "coder" "B" (.int (0 : Int32)) := Q203.other W204 (Or.inl ne199_b197)
          have U204 : Arv Z h204 b199 k199 .char (2 : Int32) [(.int (nar .char ((((xx.toUInt32 >>> ((3 : Int32) &&& 31).toUInt32).toInt32) &&& (255 : Int32)).toUInt32.toUInt16.toUInt32.toInt32))), (.int (0 : Int32))] (.int (0 : Int32)) := Arv.set Ar204 q204 S204 M204 Ha204 G204 (fits_nar_char _) W204 0 rfl (Nat.le_of_ble_eq_true rfl)
          have Z204 : n0 ≤ h204.size := Nat.le_trans Z199 (Keep.of_wr W204).1
          have N204 := Fr.snoc X204 N0 low199
          have K204 := K199.wr W204 (Or.inr sz199)
          refine own_go st204 ?_
          refine own_go (B := T204.setTop (mkF m 99 #[.val (.int xx), .val (.int (((xx.toUInt32 >>> ((1 : Int32) &&& 31).toUInt32).toInt32) &&& (3 : Int32))), .val (.int ((((xx.toUInt32 >>> ((3 : Int32) &&& 31).toUInt32).toInt32) &&& (255 : Int32)).toUInt32.toUInt16.toUInt32.toInt32)), .val (.int ((((xx.toUInt32 >>> ((11 : Int32) &&& 31).toUInt32).toInt32) &&& (255 : Int32)).toUInt32.toUInt16.toUInt32.toInt32)), .val (.int ((((xx.toUInt32 >>> ((19 : Int32) &&& 31).toUInt32).toInt32) &&& (255 : Int32)).toUInt32.toUInt16.toUInt32.toInt32))] [(.int ((((xx.toUInt32 >>> ((11 : Int32) &&& 31).toUInt32).toInt32) &&& (255 : Int32)).toUInt32.toUInt16.toUInt32.toInt32)), (.int (1 : Int32)), (.ref b199), (.ref b199), (.ref b197), (.ref b197)])) (fun t k => ?_) ?_
          · refine XS.dup X204.here hx rfl (hb hby d1_96) rfl rfl ?_
            refine XS.iconst X204.here hx rfl (hb hby d1_97) ?_
            refine XS.iloadN X204.here hx rfl (hb hby d1_98) rfl ?_
            exact k
          obtain ⟨cl209, Ar209, q209, S209, M209, Ha209, G209⟩ := U204
          have hin209 : ¬ ((1 : Int32) < 0 ∨ cl209.slots.size ≤ ((1 : Int32)).toNatClampNeg) := inb_of S209 ⟨by decide, by decide⟩
          obtain ⟨T209, h209, X209, e209, W209, st209⟩ := stC X204 hx hZ e204 Ar209 (j := (1 : Int32)) hin209 (g := (mkF m 99 #[.val (.int xx), .val (.int (((xx.toUInt32 >>> ((1 : Int32) &&& 31).toUInt32).toInt32) &&& (3 : Int32))), .val (.int ((((xx.toUInt32 >>> ((3 : Int32) &&& 31).toUInt32).toInt32) &&& (255 : Int32)).toUInt32.toUInt16.toUInt32.toInt32)), .val (.int ((((xx.toUInt32 >>> ((11 : Int32) &&& 31).toUInt32).toInt32) &&& (255 : Int32)).toUInt32.toUInt16.toUInt32.toInt32)), .val (.int ((((xx.toUInt32 >>> ((19 : Int32) &&& 31).toUInt32).toInt32) &&& (255 : Int32)).toUInt32.toUInt16.toUInt32.toInt32))] [(.int ((((xx.toUInt32 >>> ((11 : Int32) &&& 31).toUInt32).toInt32) &&& (255 : Int32)).toUInt32.toUInt16.toUInt32.toInt32)), (.int (1 : Int32)), (.ref b199), (.ref b199), (.ref b197), (.ref b197)])) rfl rfl (hb hby d1_99)
          have sf209_b197 := Safe.wr W209 sf204_b199 CH204.1 sf204_b197
          have sf209_b199 := Safe.wr W209 sf204_b199 CH204.1 sf204_b199
          have CH209 := CH204.trans (CHr.wr W209 sf204_b199 CH204.1)
          have hk209 := Nat.le_trans hk204 (Keep.of_wr W209).1
          have Q210 : Sta Z h209 "java/lang/String" "COMPACT_STRINGS" "Z" (.int cs) := Q205.wr W209
          have Q211 : Exa Z h209 b197 "java/lang/String" := Q206.wr W209
          have Q212 : Fld Z h209 b197 "java/lang/String" "value" "[B" .null := Q207.other W209 (Or.inl ne199_b197)
          have Q213 : Fld Z h209 b197 "java/lang/String" "coder" "B" (.int (0 : Int32)) := Q208.other W209 (Or.inl ne199_b197)
          have U209 : Arv Z h209 b199 k199 .char (2 : Int32) [(.int (nar .char ((((xx.toUInt32 >>> ((3 : Int32) &&& 31).toUInt32).toInt32) &&& (255 : Int32)).toUInt32.toUInt16.toUInt32.toInt32))), (.int (nar .char ((((xx.toUInt32 >>> ((11 : Int32) &&& 31).toUInt32).toInt32) &&& (255 : Int32)).toUInt32.toUInt16.toUInt32.toInt32)))] (.int (0 : Int32)) := Arv.set Ar209 q209 S209 M209 Ha209 G209 (fits_nar_char _) W209 1 rfl (Nat.le_of_ble_eq_true rfl)
          have Z209 : n0 ≤ h209.size := Nat.le_trans Z204 (Keep.of_wr W209).1
          have N209 := Fr.snoc X209 N204 low199
          have K209 := K204.wr W209 (Or.inr sz199)
          refine own_go st209 ?_
          obtain ⟨_, _, ⟨T214, L214, k214, n214⟩, -, X214, ⟨Lc214, hQ214, l214, y214, z214⟩, st214⟩ := X209.specialBack hx (y := (⟨"java/lang/String", "<init>", "([C)V"⟩ : MethodName)) rfl hown (mvT hZ (own_w hw 14 rfl)) (mvT hZ (own_w hw 15 rfl)) (mvT hZ (own_w hw 16 rfl)) (by decide) (backOf (W := 1) (iniC_2 l Z a0 hw [] b197 b199 k199 (nar .char ((((xx.toUInt32 >>> ((3 : Int32) &&& 31).toUInt32).toInt32) &&& (255 : Int32)).toUInt32.toUInt16.toUInt32.toInt32)) (nar .char ((((xx.toUInt32 >>> ((11 : Int32) &&& 31).toUInt32).toInt32) &&& (255 : Int32)).toUInt32.toUInt16.toUInt32.toInt32)) cs h209 n0 Z209 Q211 Q212 Q213 U209 Q210 low197 ne199_b197 (own_c255 _) (own_c255 _) hcs) hZ (own_w hw 16 rfl) (own_w hw 5 rfl) (by decide) (by decide)) (g := (mkF m 100 #[.val (.int xx), .val (.int (((xx.toUInt32 >>> ((1 : Int32) &&& 31).toUInt32).toInt32) &&& (3 : Int32))), .val (.int ((((xx.toUInt32 >>> ((3 : Int32) &&& 31).toUInt32).toInt32) &&& (255 : Int32)).toUInt32.toUInt16.toUInt32.toInt32)), .val (.int ((((xx.toUInt32 >>> ((11 : Int32) &&& 31).toUInt32).toInt32) &&& (255 : Int32)).toUInt32.toUInt16.toUInt32.toInt32)), .val (.int ((((xx.toUInt32 >>> ((19 : Int32) &&& 31).toUInt32).toInt32) &&& (255 : Int32)).toUInt32.toUInt16.toUInt32.toInt32))] [(.ref b199), (.ref b197), (.ref b197)])) rfl (by rw [hml]; rfl) (Steps.refl _) (a := b197) (argsL := [(.ref b199)]) (rest := [(.ref b197)]) (lenOf pd_4 rfl) rfl (by show 2 * 0 + _ ≤ _; exact Nat.le_of_eq rfl) (hb hby d1_100) (fun _ _ => ⟨rfl, e209, (by decide : 2 + 1 ≤ _), (by decide : 6 + 2 ≤ _)⟩)
          dsimp only [Pt.U, Pt.locs, Pt.cells, Pt.slots] at X214 l214 y214 z214 st214 hQ214
          subst l214 y214 z214
          obtain ⟨rfl, Nq214, Kq214⟩ := hQ214
          have sf214_b197 := Safe.keep Kq214 (sfS sf209_b197 sf0) CH209.1 sf209_b197
          have sf214_b199 := Safe.keep Kq214 (sfS sf209_b197 sf0) CH209.1 sf209_b199
          have CH214 := CH209.trans (CHr.keep Kq214 (sfS sf209_b197 sf0) CH209.1)
          have hk214 := Nat.le_trans hk209 Kq214.1
          have Q215 : Sta Z T214.heap "java/lang/String" "COMPACT_STRINGS" "Z" (.int cs) := own_staK Q210 Kq214 (nsS (own_nsE Q211) ns0)
          have Q216 : Exa Z T214.heap b197 "java/lang/String" := Q211.keep Kq214
          have Q217 : Arv Z T214.heap b199 k199 .char (2 : Int32) [(.int (nar .char ((((xx.toUInt32 >>> ((3 : Int32) &&& 31).toUInt32).toInt32) &&& (255 : Int32)).toUInt32.toUInt16.toUInt32.toInt32))), (.int (nar .char ((((xx.toUInt32 >>> ((11 : Int32) &&& 31).toUInt32).toInt32) &&& (255 : Int32)).toUInt32.toUInt16.toUInt32.toInt32)))] (.int (0 : Int32)) := U209.keep Kq214 (ninS (Ne.symm ne199_b197) nin0)
          have Z214 : n0 ≤ T214.heap.size := Nat.le_trans Z209 Kq214.1
          have K214 : Keep h0 T214.heap [] := K209.trans Kq214 (allS (Or.inr sz197) all0)
          have N214 := Fr.app N209 Nq214
          refine own_go (B := T214.setTop (mkF m 103 #[.val (.int xx), .val (.int (((xx.toUInt32 >>> ((1 : Int32) &&& 31).toUInt32).toInt32) &&& (3 : Int32))), .val (.int ((((xx.toUInt32 >>> ((3 : Int32) &&& 31).toUInt32).toInt32) &&& (255 : Int32)).toUInt32.toUInt16.toUInt32.toInt32)), .val (.int ((((xx.toUInt32 >>> ((11 : Int32) &&& 31).toUInt32).toInt32) &&& (255 : Int32)).toUInt32.toUInt16.toUInt32.toInt32)), .val (.int ((((xx.toUInt32 >>> ((19 : Int32) &&& 31).toUInt32).toInt32) &&& (255 : Int32)).toUInt32.toUInt16.toUInt32.toInt32))] [(.ref b197)])) (fun t k => st214.trans k) ?_
          obtain ⟨fs, hr, hrun, hended, hq⟩ := X214.leaveW hS0 hk214 (v := some (.ref b197)) (fun h => by rw [Bd.returns] at h; cases h)
          refine ⟨_, _, ?_, hrun, hended, _, _, rfl, ?_, ?_, hq.1, hq.2.1, hq.2.2.1, hq.2.2.2.mono (by decide) (by decide)⟩
          · show Steps p.tables e below (T214.setTop (mkF m 103 #[.val (.int xx), .val (.int (((xx.toUInt32 >>> ((1 : Int32) &&& 31).toUInt32).toInt32) &&& (3 : Int32))), .val (.int ((((xx.toUInt32 >>> ((3 : Int32) &&& 31).toUInt32).toInt32) &&& (255 : Int32)).toUInt32.toUInt16.toUInt32.toInt32)), .val (.int ((((xx.toUInt32 >>> ((11 : Int32) &&& 31).toUInt32).toInt32) &&& (255 : Int32)).toUInt32.toUInt16.toUInt32.toInt32)), .val (.int ((((xx.toUInt32 >>> ((19 : Int32) &&& 31).toUInt32).toInt32) &&& (255 : Int32)).toUInt32.toUInt16.toUInt32.toInt32))] [(.ref b197)])) _
            exact retOut X214 hx Bd.returns rfl (Or.inr (Or.inr (Or.inr (Or.inr ⟨rfl, rfl, rfl⟩)))) (hb hby d1_103) hr
          · show Qelt Z xx cs h0 n0 _ T214.heap _
            skip
            exact ⟨b197, rfl, N214, K214, Q216⟩
          · rw [hh]
            show CHr Z consts_1 _ _ T214.vm T214.heap
            skip
            exact CH214.trans (CHv.at X214 hZ hEL CH214.1)
        · refine own_go (B := s₁.setTop (mkF m 104 #[.val (.int xx), .val (.int (((xx.toUInt32 >>> ((1 : Int32) &&& 31).toUInt32).toInt32) &&& (3 : Int32))), .val (.int ((((xx.toUInt32 >>> ((3 : Int32) &&& 31).toUInt32).toInt32) &&& (255 : Int32)).toUInt32.toUInt16.toUInt32.toInt32)), .val (.int ((((xx.toUInt32 >>> ((11 : Int32) &&& 31).toUInt32).toInt32) &&& (255 : Int32)).toUInt32.toUInt16.toUInt32.toInt32)), .val (.int ((((xx.toUInt32 >>> ((19 : Int32) &&& 31).toUInt32).toInt32) &&& (255 : Int32)).toUInt32.toUInt16.toUInt32.toInt32))] [])) (fun t k => ?_) ?_
          · refine XS.icmpYes X0.here hx rfl (pc0 := 82) (pc' := 104) rfl (hb hby d1_82) rfl (feq hc82_196).2 (by decide) (by decide) ?_
            exact k
          obtain ⟨T218, h218, X218, e218, E218, A218, D218, -, st218⟩ := newO X0 hx hZ hown (own_w hw 12 rfl) (own_w hw 6 rfl) (own_w hw 5 rfl) e0 (g := (mkF m 104 #[.val (.int xx), .val (.int (((xx.toUInt32 >>> ((1 : Int32) &&& 31).toUInt32).toInt32) &&& (3 : Int32))), .val (.int ((((xx.toUInt32 >>> ((3 : Int32) &&& 31).toUInt32).toInt32) &&& (255 : Int32)).toUInt32.toUInt16.toUInt32.toInt32)), .val (.int ((((xx.toUInt32 >>> ((11 : Int32) &&& 31).toUInt32).toInt32) &&& (255 : Int32)).toUInt32.toUInt16.toUInt32.toInt32)), .val (.int ((((xx.toUInt32 >>> ((19 : Int32) &&& 31).toUInt32).toInt32) &&& (255 : Int32)).toUInt32.toUInt16.toUInt32.toInt32))] [])) rfl (hb hby d1_104) (by decide) (by decide)
          obtain ⟨b218, g218⟩ : ∃ z, z = h0.size := ⟨_, rfl⟩
          rw [← g218] at A218 D218 st218
          have low218 : n0 ≤ b218 := Nat.le_trans Z0 (Nat.le_of_eq g218.symm)
          have sz218 : h0.size ≤ b218 := Nat.le_trans K0.1 (Nat.le_of_eq g218.symm)
          have sf218_b218 : Safe Z consts_1 _ _ b218 := Safe.ext E218 hC0.1 (Safe.new (Nat.le_of_eq g218.symm))
          have CH218 := hC0.trans (CHr.ext E218 hC0.1)
          have hk218 := Nat.le_trans hk0 E218.1
          have Q219 : Sta Z h218 "java/lang/String" "COMPACT_STRINGS" "Z" (.int cs) := P0.ext E218
          have Z218 : n0 ≤ h218.size := Nat.le_trans Z0 E218.1
          have K218 := K0.ext E218
          have D218_value_String : Fld Z h218 b218 "java/lang/String" "value" "[B" .null := D218 (Or.inr (own_w hw 8 rfl)) (ty := (.array .byte)) (by decide)
          have D218_coder_String : Fld Z h218 b218 "java/lang/String" "coder" "B" (.int (0 : Int32)) := D218 (Or.inr (own_w hw 9 rfl)) (ty := .byte) (by decide)
          refine own_go st218 ?_
          refine own_go (B := T218.setTop (mkF m 109 #[.val (.int xx), .val (.int (((xx.toUInt32 >>> ((1 : Int32) &&& 31).toUInt32).toInt32) &&& (3 : Int32))), .val (.int ((((xx.toUInt32 >>> ((3 : Int32) &&& 31).toUInt32).toInt32) &&& (255 : Int32)).toUInt32.toUInt16.toUInt32.toInt32)), .val (.int ((((xx.toUInt32 >>> ((11 : Int32) &&& 31).toUInt32).toInt32) &&& (255 : Int32)).toUInt32.toUInt16.toUInt32.toInt32)), .val (.int ((((xx.toUInt32 >>> ((19 : Int32) &&& 31).toUInt32).toInt32) &&& (255 : Int32)).toUInt32.toUInt16.toUInt32.toInt32))] [(.int (3 : Int32)), (.ref b218), (.ref b218)])) (fun t k => ?_) ?_
          · refine XS.dup X218.here hx rfl (hb hby d1_107) rfl rfl ?_
            refine XS.iconst X218.here hx rfl (hb hby d1_108) ?_
            exact k
          obtain ⟨T220, h220, k220, X220, e220, E220, A220, st220⟩ := newP X218 hx hZ (own_w hw 13 rfl) e218 (g := (mkF m 109 #[.val (.int xx), .val (.int (((xx.toUInt32 >>> ((1 : Int32) &&& 31).toUInt32).toInt32) &&& (3 : Int32))), .val (.int ((((xx.toUInt32 >>> ((3 : Int32) &&& 31).toUInt32).toInt32) &&& (255 : Int32)).toUInt32.toUInt16.toUInt32.toInt32)), .val (.int ((((xx.toUInt32 >>> ((11 : Int32) &&& 31).toUInt32).toInt32) &&& (255 : Int32)).toUInt32.toUInt16.toUInt32.toInt32)), .val (.int ((((xx.toUInt32 >>> ((19 : Int32) &&& 31).toUInt32).toInt32) &&& (255 : Int32)).toUInt32.toUInt16.toUInt32.toInt32))] [(.int (3 : Int32)), (.ref b218), (.ref b218)])) rfl (hb hby d1_109) rfl (by decide) (cap := 3) (by decide) (by decide) (by decide) (by decide)
          obtain ⟨b220, g220⟩ : ∃ z, z = h218.size := ⟨_, rfl⟩
          rw [← g220] at A220 st220
          have ne220_b218 : b218 ≠ b220 := Nat.ne_of_lt (Nat.lt_of_lt_of_le A218.lt (Nat.le_of_eq g220.symm))
          have low220 : n0 ≤ b220 := Nat.le_trans Z218 (Nat.le_of_eq g220.symm)
          have sz220 : h0.size ≤ b220 := Nat.le_trans K218.1 (Nat.le_of_eq g220.symm)
          have sf220_b218 := Safe.ext E220 CH218.1 sf218_b218
          have sf220_b220 : Safe Z consts_1 _ _ b220 := Safe.ext E220 CH218.1 (Safe.new (Nat.le_of_eq g220.symm))
          have CH220 := CH218.trans (CHr.ext E220 CH218.1)
          have hk220 := Nat.le_trans hk218 E220.1
          have Q221 : Sta Z h220 "java/lang/String" "COMPACT_STRINGS" "Z" (.int cs) := Q219.ext E220
          have Q222 : Exa Z h220 b218 "java/lang/String" := A218.ext E220
          have Q223 : Fld Z h220 b218 "java/lang/String" "value" "[B" .null := D218_value_String.ext E220
          have Q224 : Fld Z h220 b218 "java/lang/String" "coder" "B" (.int (0 : Int32)) := D218_coder_String.ext E220
          have Z220 : n0 ≤ h220.size := Nat.le_trans Z218 E220.1
          have K220 := K218.ext E220
          have V220 : Arv Z h220 b220 k220 .char (3 : Int32) [(.int (0 : Int32)), (.int (0 : Int32)), (.int (0 : Int32))] (.int (0 : Int32)) := (Arv.new A220 (by decide)).pad (pad_rep [] (.int (0 : Int32)) 3)
          refine own_go st220 ?_
          refine own_go (B := T220.setTop (mkF m 114 #[.val (.int xx), .val (.int (((xx.toUInt32 >>> ((1 : Int32) &&& 31).toUInt32).toInt32) &&& (3 : Int32))), .val (.int ((((xx.toUInt32 >>> ((3 : Int32) &&& 31).toUInt32).toInt32) &&& (255 : Int32)).toUInt32.toUInt16.toUInt32.toInt32)), .val (.int ((((xx.toUInt32 >>> ((11 : Int32) &&& 31).toUInt32).toInt32) &&& (255 : Int32)).toUInt32.toUInt16.toUInt32.toInt32)), .val (.int ((((xx.toUInt32 >>> ((19 : Int32) &&& 31).toUInt32).toInt32) &&& (255 : Int32)).toUInt32.toUInt16.toUInt32.toInt32))] [(.int ((((xx.toUInt32 >>> ((3 : Int32) &&& 31).toUInt32).toInt32) &&& (255 : Int32)).toUInt32.toUInt16.toUInt32.toInt32)), (.int (0 : Int32)), (.ref b220), (.ref b220), (.ref b218), (.ref b218)])) (fun t k => ?_) ?_
          · refine XS.dup X220.here hx rfl (hb hby d1_111) rfl rfl ?_
            refine XS.iconst X220.here hx rfl (hb hby d1_112) ?_
            refine XS.iloadN X220.here hx rfl (hb hby d1_113) rfl ?_
            exact k
          obtain ⟨cl225, Ar225, q225, S225, M225, Ha225, G225⟩ := V220
          have hin225 : ¬ ((0 : Int32) < 0 ∨ cl225.slots.size ≤ ((0 : Int32)).toNatClampNeg) := inb_of S225 ⟨by decide, by decide⟩
          obtain ⟨T225, h225, X225, e225, W225, st225⟩ := stC X220 hx hZ e220 Ar225 (j := (0 : Int32)) hin225 (g := (mkF m 114 #[.val (.int xx), .val (.int (((xx.toUInt32 >>> ((1 : Int32) &&& 31).toUInt32).toInt32) &&& (3 : Int32))), .val (.int ((((xx.toUInt32 >>> ((3 : Int32) &&& 31).toUInt32).toInt32) &&& (255 : Int32)).toUInt32.toUInt16.toUInt32.toInt32)), .val (.int ((((xx.toUInt32 >>> ((11 : Int32) &&& 31).toUInt32).toInt32) &&& (255 : Int32)).toUInt32.toUInt16.toUInt32.toInt32)), .val (.int ((((xx.toUInt32 >>> ((19 : Int32) &&& 31).toUInt32).toInt32) &&& (255 : Int32)).toUInt32.toUInt16.toUInt32.toInt32))] [(.int ((((xx.toUInt32 >>> ((3 : Int32) &&& 31).toUInt32).toInt32) &&& (255 : Int32)).toUInt32.toUInt16.toUInt32.toInt32)), (.int (0 : Int32)), (.ref b220), (.ref b220), (.ref b218), (.ref b218)])) rfl rfl (hb hby d1_114)
          have sf225_b218 := Safe.wr W225 sf220_b220 CH220.1 sf220_b218
          have sf225_b220 := Safe.wr W225 sf220_b220 CH220.1 sf220_b220
          have CH225 := CH220.trans (CHr.wr W225 sf220_b220 CH220.1)
          have hk225 := Nat.le_trans hk220 (Keep.of_wr W225).1
          have Q226 : Sta Z h225 "java/lang/String" "COMPACT_STRINGS" "Z" (.int cs) := Q221.wr W225
          have Q227 : Exa Z h225 b218 "java/lang/String" := Q222.wr W225
          have Q228 : Fld Z h225 b218 "java/lang/String" "value" "[B" .null := Q223.other W225 (Or.inl ne220_b218)
          have Q229 : Fld Z h225 b218 "java/lang/String" "coder" "B" (.int (0 : Int32)) := Q224.other W225 (Or.inl ne220_b218)
          have U225 : Arv Z h225 b220 k220 .char (3 : Int32) [(.int (nar .char ((((xx.toUInt32 >>> ((3 : Int32) &&& 31).toUInt32).toInt32) &&& (255 : Int32)).toUInt32.toUInt16.toUInt32.toInt32))), (.int (0 : Int32)), (.int (0 : Int32))] (.int (0 : Int32)) := Arv.set Ar225 q225 S225 M225 Ha225 G225 (fits_nar_char _) W225 0 rfl (Nat.le_of_ble_eq_true rfl)
          have Z225 : n0 ≤ h225.size := Nat.le_trans Z220 (Keep.of_wr W225).1
          have N225 := Fr.snoc X225 N0 low220
          have K225 := K220.wr W225 (Or.inr sz220)
          refine own_go st225 ?_
          refine own_go (B := T225.setTop (mkF m 118 #[.val (.int xx), .val (.int (((xx.toUInt32 >>> ((1 : Int32) &&& 31).toUInt32).toInt32) &&& (3 : Int32))), .val (.int ((((xx.toUInt32 >>> ((3 : Int32) &&& 31).toUInt32).toInt32) &&& (255 : Int32)).toUInt32.toUInt16.toUInt32.toInt32)), .val (.int ((((xx.toUInt32 >>> ((11 : Int32) &&& 31).toUInt32).toInt32) &&& (255 : Int32)).toUInt32.toUInt16.toUInt32.toInt32)), .val (.int ((((xx.toUInt32 >>> ((19 : Int32) &&& 31).toUInt32).toInt32) &&& (255 : Int32)).toUInt32.toUInt16.toUInt32.toInt32))] [(.int ((((xx.toUInt32 >>> ((11 : Int32) &&& 31).toUInt32).toInt32) &&& (255 : Int32)).toUInt32.toUInt16.toUInt32.toInt32)), (.int (1 : Int32)), (.ref b220), (.ref b220), (.ref b218), (.ref b218)])) (fun t k => ?_) ?_
          · refine XS.dup X225.here hx rfl (hb hby d1_115) rfl rfl ?_
            refine XS.iconst X225.here hx rfl (hb hby d1_116) ?_
            refine XS.iloadN X225.here hx rfl (hb hby d1_117) rfl ?_
            exact k
          obtain ⟨cl230, Ar230, q230, S230, M230, Ha230, G230⟩ := U225
          have hin230 : ¬ ((1 : Int32) < 0 ∨ cl230.slots.size ≤ ((1 : Int32)).toNatClampNeg) := inb_of S230 ⟨by decide, by decide⟩
          obtain ⟨T230, h230, X230, e230, W230, st230⟩ := stC X225 hx hZ e225 Ar230 (j := (1 : Int32)) hin230 (g := (mkF m 118 #[.val (.int xx), .val (.int (((xx.toUInt32 >>> ((1 : Int32) &&& 31).toUInt32).toInt32) &&& (3 : Int32))), .val (.int ((((xx.toUInt32 >>> ((3 : Int32) &&& 31).toUInt32).toInt32) &&& (255 : Int32)).toUInt32.toUInt16.toUInt32.toInt32)), .val (.int ((((xx.toUInt32 >>> ((11 : Int32) &&& 31).toUInt32).toInt32) &&& (255 : Int32)).toUInt32.toUInt16.toUInt32.toInt32)), .val (.int ((((xx.toUInt32 >>> ((19 : Int32) &&& 31).toUInt32).toInt32) &&& (255 : Int32)).toUInt32.toUInt16.toUInt32.toInt32))] [(.int ((((xx.toUInt32 >>> ((11 : Int32) &&& 31).toUInt32).toInt32) &&& (255 : Int32)).toUInt32.toUInt16.toUInt32.toInt32)), (.int (1 : Int32)), (.ref b220), (.ref b220), (.ref b218), (.ref b218)])) rfl rfl (hb hby d1_118)
          have sf230_b218 := Safe.wr W230 sf225_b220 CH225.1 sf225_b218
          have sf230_b220 := Safe.wr W230 sf225_b220 CH225.1 sf225_b220
          have CH230 := CH225.trans (CHr.wr W230 sf225_b220 CH225.1)
          have hk230 := Nat.le_trans hk225 (Keep.of_wr W230).1
          have Q231 : Sta Z h230 "java/lang/String" "COMPACT_STRINGS" "Z" (.int cs) := Q226.wr W230
          have Q232 : Exa Z h230 b218 "java/lang/String" := Q227.wr W230
          have Q233 : Fld Z h230 b218 "java/lang/String" "value" "[B" .null := Q228.other W230 (Or.inl ne220_b218)
          have Q234 : Fld Z h230 b218 "java/lang/String" "coder" "B" (.int (0 : Int32)) := Q229.other W230 (Or.inl ne220_b218)
          have U230 : Arv Z h230 b220 k220 .char (3 : Int32) [(.int (nar .char ((((xx.toUInt32 >>> ((3 : Int32) &&& 31).toUInt32).toInt32) &&& (255 : Int32)).toUInt32.toUInt16.toUInt32.toInt32))), (.int (nar .char ((((xx.toUInt32 >>> ((11 : Int32) &&& 31).toUInt32).toInt32) &&& (255 : Int32)).toUInt32.toUInt16.toUInt32.toInt32))), (.int (0 : Int32))] (.int (0 : Int32)) := Arv.set Ar230 q230 S230 M230 Ha230 G230 (fits_nar_char _) W230 1 rfl (Nat.le_of_ble_eq_true rfl)
          have Z230 : n0 ≤ h230.size := Nat.le_trans Z225 (Keep.of_wr W230).1
          have N230 := Fr.snoc X230 N225 low220
          have K230 := K225.wr W230 (Or.inr sz220)
          refine own_go st230 ?_
          refine own_go (B := T230.setTop (mkF m 123 #[.val (.int xx), .val (.int (((xx.toUInt32 >>> ((1 : Int32) &&& 31).toUInt32).toInt32) &&& (3 : Int32))), .val (.int ((((xx.toUInt32 >>> ((3 : Int32) &&& 31).toUInt32).toInt32) &&& (255 : Int32)).toUInt32.toUInt16.toUInt32.toInt32)), .val (.int ((((xx.toUInt32 >>> ((11 : Int32) &&& 31).toUInt32).toInt32) &&& (255 : Int32)).toUInt32.toUInt16.toUInt32.toInt32)), .val (.int ((((xx.toUInt32 >>> ((19 : Int32) &&& 31).toUInt32).toInt32) &&& (255 : Int32)).toUInt32.toUInt16.toUInt32.toInt32))] [(.int ((((xx.toUInt32 >>> ((19 : Int32) &&& 31).toUInt32).toInt32) &&& (255 : Int32)).toUInt32.toUInt16.toUInt32.toInt32)), (.int (2 : Int32)), (.ref b220), (.ref b220), (.ref b218), (.ref b218)])) (fun t k => ?_) ?_
          · refine XS.dup X230.here hx rfl (hb hby d1_119) rfl rfl ?_
            refine XS.iconst X230.here hx rfl (hb hby d1_120) ?_
            refine XS.iload X230.here hx rfl (hb hby d1_121) rfl ?_
            exact k
          obtain ⟨cl235, Ar235, q235, S235, M235, Ha235, G235⟩ := U230
          have hin235 : ¬ ((2 : Int32) < 0 ∨ cl235.slots.size ≤ ((2 : Int32)).toNatClampNeg) := inb_of S235 ⟨by decide, by decide⟩
          obtain ⟨T235, h235, X235, e235, W235, st235⟩ := stC X230 hx hZ e230 Ar235 (j := (2 : Int32)) hin235 (g := (mkF m 123 #[.val (.int xx), .val (.int (((xx.toUInt32 >>> ((1 : Int32) &&& 31).toUInt32).toInt32) &&& (3 : Int32))), .val (.int ((((xx.toUInt32 >>> ((3 : Int32) &&& 31).toUInt32).toInt32) &&& (255 : Int32)).toUInt32.toUInt16.toUInt32.toInt32)), .val (.int ((((xx.toUInt32 >>> ((11 : Int32) &&& 31).toUInt32).toInt32) &&& (255 : Int32)).toUInt32.toUInt16.toUInt32.toInt32)), .val (.int ((((xx.toUInt32 >>> ((19 : Int32) &&& 31).toUInt32).toInt32) &&& (255 : Int32)).toUInt32.toUInt16.toUInt32.toInt32))] [(.int ((((xx.toUInt32 >>> ((19 : Int32) &&& 31).toUInt32).toInt32) &&& (255 : Int32)).toUInt32.toUInt16.toUInt32.toInt32)), (.int (2 : Int32)), (.ref b220), (.ref b220), (.ref b218), (.ref b218)])) rfl rfl (hb hby d1_123)
          have sf235_b218 := Safe.wr W235 sf230_b220 CH230.1 sf230_b218
          have sf235_b220 := Safe.wr W235 sf230_b220 CH230.1 sf230_b220
          have CH235 := CH230.trans (CHr.wr W235 sf230_b220 CH230.1)
          have hk235 := Nat.le_trans hk230 (Keep.of_wr W235).1
          have Q236 : Sta Z h235 "java/lang/String" "COMPACT_STRINGS" "Z" (.int cs) := Q231.wr W235
          have Q237 : Exa Z h235 b218 "java/lang/String" := Q232.wr W235
          have Q238 : Fld Z h235 b218 "java/lang/String" "value" "[B" .null := Q233.other W235 (Or.inl ne220_b218)
          have Q239 : Fld Z h235 b218 "java/lang/String" "coder" "B" (.int (0 : Int32)) := Q234.other W235 (Or.inl ne220_b218)
          have U235 : Arv Z h235 b220 k220 .char (3 : Int32) [(.int (nar .char ((((xx.toUInt32 >>> ((3 : Int32) &&& 31).toUInt32).toInt32) &&& (255 : Int32)).toUInt32.toUInt16.toUInt32.toInt32))), (.int (nar .char ((((xx.toUInt32 >>> ((11 : Int32) &&& 31).toUInt32).toInt32) &&& (255 : Int32)).toUInt32.toUInt16.toUInt32.toInt32))), (.int (nar .char ((((xx.toUInt32 >>> ((19 : Int32) &&& 31).toUInt32).toInt32) &&& (255 : Int32)).toUInt32.toUInt16.toUInt32.toInt32)))] (.int (0 : Int32)) := Arv.set Ar235 q235 S235 M235 Ha235 G235 (fits_nar_char _) W235 2 rfl (Nat.le_of_ble_eq_true rfl)
          have Z235 : n0 ≤ h235.size := Nat.le_trans Z230 (Keep.of_wr W235).1
          have N235 := Fr.snoc X235 N230 low220
          have K235 := K230.wr W235 (Or.inr sz220)
          refine own_go st235 ?_
          obtain ⟨_, _, ⟨T240, L240, k240, n240⟩, -, X240, ⟨Lc240, hQ240, l240, y240, z240⟩, st240⟩ := X235.specialBack hx (y := (⟨"java/lang/String", "<init>", "([C)V"⟩ : MethodName)) rfl hown (mvT hZ (own_w hw 14 rfl)) (mvT hZ (own_w hw 15 rfl)) (mvT hZ (own_w hw 16 rfl)) (by decide) (backOf (W := 1) (iniC_3 l Z a0 hw [] b218 b220 k220 (nar .char ((((xx.toUInt32 >>> ((3 : Int32) &&& 31).toUInt32).toInt32) &&& (255 : Int32)).toUInt32.toUInt16.toUInt32.toInt32)) (nar .char ((((xx.toUInt32 >>> ((11 : Int32) &&& 31).toUInt32).toInt32) &&& (255 : Int32)).toUInt32.toUInt16.toUInt32.toInt32)) (nar .char ((((xx.toUInt32 >>> ((19 : Int32) &&& 31).toUInt32).toInt32) &&& (255 : Int32)).toUInt32.toUInt16.toUInt32.toInt32)) cs h235 n0 Z235 Q237 Q238 Q239 U235 Q236 low218 ne220_b218 (own_c255 _) (own_c255 _) (own_c255 _) hcs) hZ (own_w hw 16 rfl) (own_w hw 5 rfl) (by decide) (by decide)) (g := (mkF m 124 #[.val (.int xx), .val (.int (((xx.toUInt32 >>> ((1 : Int32) &&& 31).toUInt32).toInt32) &&& (3 : Int32))), .val (.int ((((xx.toUInt32 >>> ((3 : Int32) &&& 31).toUInt32).toInt32) &&& (255 : Int32)).toUInt32.toUInt16.toUInt32.toInt32)), .val (.int ((((xx.toUInt32 >>> ((11 : Int32) &&& 31).toUInt32).toInt32) &&& (255 : Int32)).toUInt32.toUInt16.toUInt32.toInt32)), .val (.int ((((xx.toUInt32 >>> ((19 : Int32) &&& 31).toUInt32).toInt32) &&& (255 : Int32)).toUInt32.toUInt16.toUInt32.toInt32))] [(.ref b220), (.ref b218), (.ref b218)])) rfl (by rw [hml]; rfl) (Steps.refl _) (a := b218) (argsL := [(.ref b220)]) (rest := [(.ref b218)]) (lenOf pd_4 rfl) rfl (by show 2 * 0 + _ ≤ _; exact Nat.le_of_eq rfl) (hb hby d1_124) (fun _ _ => ⟨rfl, e235, (by decide : 2 + 1 ≤ _), (by decide : 7 + 3 ≤ _)⟩)
          dsimp only [Pt.U, Pt.locs, Pt.cells, Pt.slots] at X240 l240 y240 z240 st240 hQ240
          subst l240 y240 z240
          obtain ⟨rfl, Nq240, Kq240⟩ := hQ240
          have sf240_b218 := Safe.keep Kq240 (sfS sf235_b218 sf0) CH235.1 sf235_b218
          have sf240_b220 := Safe.keep Kq240 (sfS sf235_b218 sf0) CH235.1 sf235_b220
          have CH240 := CH235.trans (CHr.keep Kq240 (sfS sf235_b218 sf0) CH235.1)
          have hk240 := Nat.le_trans hk235 Kq240.1
          have Q241 : Sta Z T240.heap "java/lang/String" "COMPACT_STRINGS" "Z" (.int cs) := own_staK Q236 Kq240 (nsS (own_nsE Q237) ns0)
          have Q242 : Exa Z T240.heap b218 "java/lang/String" := Q237.keep Kq240
          have Q243 : Arv Z T240.heap b220 k220 .char (3 : Int32) [(.int (nar .char ((((xx.toUInt32 >>> ((3 : Int32) &&& 31).toUInt32).toInt32) &&& (255 : Int32)).toUInt32.toUInt16.toUInt32.toInt32))), (.int (nar .char ((((xx.toUInt32 >>> ((11 : Int32) &&& 31).toUInt32).toInt32) &&& (255 : Int32)).toUInt32.toUInt16.toUInt32.toInt32))), (.int (nar .char ((((xx.toUInt32 >>> ((19 : Int32) &&& 31).toUInt32).toInt32) &&& (255 : Int32)).toUInt32.toUInt16.toUInt32.toInt32)))] (.int (0 : Int32)) := U235.keep Kq240 (ninS (Ne.symm ne220_b218) nin0)
          have Z240 : n0 ≤ T240.heap.size := Nat.le_trans Z235 Kq240.1
          have K240 : Keep h0 T240.heap [] := K235.trans Kq240 (allS (Or.inr sz218) all0)
          have N240 := Fr.app N235 Nq240
          refine own_go (B := T240.setTop (mkF m 127 #[.val (.int xx), .val (.int (((xx.toUInt32 >>> ((1 : Int32) &&& 31).toUInt32).toInt32) &&& (3 : Int32))), .val (.int ((((xx.toUInt32 >>> ((3 : Int32) &&& 31).toUInt32).toInt32) &&& (255 : Int32)).toUInt32.toUInt16.toUInt32.toInt32)), .val (.int ((((xx.toUInt32 >>> ((11 : Int32) &&& 31).toUInt32).toInt32) &&& (255 : Int32)).toUInt32.toUInt16.toUInt32.toInt32)), .val (.int ((((xx.toUInt32 >>> ((19 : Int32) &&& 31).toUInt32).toInt32) &&& (255 : Int32)).toUInt32.toUInt16.toUInt32.toInt32))] [(.ref b218)])) (fun t k => st240.trans k) ?_
          obtain ⟨fs, hr, hrun, hended, hq⟩ := X240.leaveW hS0 hk240 (v := some (.ref b218)) (fun h => by rw [Bd.returns] at h; cases h)
          refine ⟨_, _, ?_, hrun, hended, _, _, rfl, ?_, ?_, hq.1, hq.2.1, hq.2.2.1, hq.2.2.2.mono (by decide) (by decide)⟩
          · show Steps p.tables e below (T240.setTop (mkF m 127 #[.val (.int xx), .val (.int (((xx.toUInt32 >>> ((1 : Int32) &&& 31).toUInt32).toInt32) &&& (3 : Int32))), .val (.int ((((xx.toUInt32 >>> ((3 : Int32) &&& 31).toUInt32).toInt32) &&& (255 : Int32)).toUInt32.toUInt16.toUInt32.toInt32)), .val (.int ((((xx.toUInt32 >>> ((11 : Int32) &&& 31).toUInt32).toInt32) &&& (255 : Int32)).toUInt32.toUInt16.toUInt32.toInt32)), .val (.int ((((xx.toUInt32 >>> ((19 : Int32) &&& 31).toUInt32).toInt32) &&& (255 : Int32)).toUInt32.toUInt16.toUInt32.toInt32))] [(.ref b218)])) _
            exact retOut X240 hx Bd.returns rfl (Or.inr (Or.inr (Or.inr (Or.inr ⟨rfl, rfl, rfl⟩)))) (hb hby d1_127) hr
          · show Qelt Z xx cs h0 n0 _ T240.heap _
            skip
            exact ⟨b218, rfl, N240, K240, Q242⟩
          · rw [hh]
            show CHr Z consts_1 _ _ T240.vm T240.heap
            skip
            exact CH240.trans (CHv.at X240 hZ hEL CH240.1)
  · refine own_go (B := s₁.setTop (mkF m 6 #[.val (.int xx), .unset, .unset, .unset, .unset] [])) (fun t k => ?_) ?_
    · refine XS.ifNo X0.here hx rfl (hb hby d1_3) rfl ((if0 _ _).trans (feq hc3_166).1) ?_
      exact k
    obtain ⟨a244, T244, h244, k1244, b244, kk244, X244, e244, E244, hS244, hkq244, hZ244, hown244, A244, C244, B244, V244, -, -, CHq244, -, -, st244⟩ := ldcCH X0 hx hZ hown (own_w hw 4 rfl) (own_wS hw) e0 hS0 hk0 hEL (List.mem_of_getElem? (i := 0) rfl) hC0.1 (vs := own_vs "--timings") (z := (9 : Int32)) (own_ht "--timings" (by decide)) (by decide) (own_vl "--timings" 9 (by decide) (by decide)) (g := (mkF m 6 #[.val (.int xx), .unset, .unset, .unset, .unset] [])) rfl (hb hby d1_6) (n := 36) (by decide) (by decide) (by decide) (by decide)
    have CH244 := hC0.trans CHq244
    have Q245 : Sta Z h244 "java/lang/String" "COMPACT_STRINGS" "Z" (.int cs) := P0.ext E244
    have Z244 : n0 ≤ h244.size := Nat.le_trans Z0 E244.1
    have K244 := K0.ext E244
    have hZ := hZ244
    have hown := hown244
    refine own_go st244 ?_
    obtain ⟨fs, hr, hrun, hended, hq⟩ := X244.leaveW hS244 (by rw [e244]; exact hkq244) (v := some (.ref a244)) (fun h => by rw [Bd.returns] at h; cases h)
    refine ⟨_, _, ?_, hrun, hended, _, _, rfl, ?_, ?_, hq.1, hq.2.1, hq.2.2.1, hq.2.2.2.mono (by decide) (by decide)⟩
    · show Steps p.tables e below (T244.setTop (mkF m 8 #[.val (.int xx), .unset, .unset, .unset, .unset] [(.ref a244)])) _
      exact retOut X244 hx Bd.returns rfl (Or.inr (Or.inr (Or.inr (Or.inr ⟨rfl, rfl, rfl⟩)))) (hb hby d1_8) hr
    · show Qelt Z xx cs h0 n0 _ T244.heap _
      rw [e244]
      exact ⟨a244, rfl, N0, K244, A244⟩
    · rw [hh]
      show CHr Z consts_1 _ _ T244.vm T244.heap
      rw [e244]
      exact CH244.trans (CHv.at X244 hZ hEL CH244.1)
def Qmax (Z : State)  (h0 : Heap) (n0 : Nat) (v : Option Value) (h : Heap) (L : List Loc) : Prop := v = some (.int (10 : Int32)) ∧ Fr n0 L ∧ h = h0
theorem efmax (m : MethodId)  : entryFrame m #[(.int (10 : Int32)), (.int (1 : Int32))] 2 = mkF m 0 #[.val (.int (10 : Int32)), .val (.int (1 : Int32))] [] := by first | (simp [entryFrame, mkF, argsToLocals, Value.category]; done) | rfl
set_option maxRecDepth 65536 in
set_option maxHeartbeats 40000000 in
theorem max (l : Launch) (Z : State) (a0 : Array Value) (hw : ∀ d ∈ tables_1, d.before a0 Z = true) (ws : List Jvm.Cond)  (h0 : Heap) (n0 : Nat) (Z0 : n0 ≤ h0.size)  :
    MetFree l (⟨"java/lang/Math", "max", "(II)I"⟩ : MethodName) (head1 (Jvm.Cond.code (⟨"java/lang/Math", "max", "(II)I"⟩ : MethodName) jdk_29_method_65_code 2 (some .int) :: ws) ({ frames := 0, cells := 0, slots := 0, locals := 0 } : Room)) (fun a U => a = #[(.int (10 : Int32)), (.int (1 : Int32))] ∧ Z.Warmed39 U.vm ∧ U.heap = h0) (fun _ _ _ _ _ => True) (fun _ U o U' => ∃ v L, o = .returned v ∧ Qmax Z  h0 n0 v U'.heap L ∧ FrameEnd U o U' L ({ frames := 0, cells := 0, slots := 0, locals := 0 } : Room).cells ({ frames := 0, cells := 0, slots := 0, locals := 0 } : Room).slots) := by
  refine MetFree.of_bodySF (Jvm.Free.JP.mathPlain rfl (by decide +kernel)) hisR ?_
  intro p e s m args below meth c s₁ Bd hml0 hP hK
  obtain ⟨rfl, hZ, hh⟩ := hP
  have hx := Bd.exec
  have hby := Bd.bytes
  have hml : c.maxLocals = 2 := hml0
  have hown : s.vm.findClass "java/lang/Math" = some m.cls := findClass_of_methodNamed Bd.named
  have hnm := (name_of_methodNamed Bd.named Bd.method).1
  have X0 : Stand p l e ({ frames := 0, cells := 0, slots := 0, locals := 0 } : Room) s m #[(.int (10 : Int32)), (.int (1 : Int32))] below meth c s₁ [] 0 0 := Stand.of_body Bd
  have e0 : s₁.heap = h0 := by rw [← hh, Bd.state]; rfl
  have N0 := Fr.nil n0
  have K0 : Keep h0 h0 [] := Keep.refl h0 _
  refine own_go (B := s₁.setTop (mkF m 0 #[.val (.int (10 : Int32)), .val (.int (1 : Int32))] [])) (fun t k => castTop (efmax m ) k) ?_
  refine own_go (B := s₁.setTop (mkF m 10 #[.val (.int (10 : Int32)), .val (.int (1 : Int32))] [(.int (10 : Int32))])) (fun t k => ?_) ?_
  · refine XS.iloadN X0.here hx rfl (hb hby d20_0) rfl ?_
    refine XS.iloadN X0.here hx rfl (hb hby d20_1) rfl ?_
    refine XS.icmpNo X0.here hx rfl (hb hby d20_2) rfl (flt (by decide : ¬ ((10 : Int32) < (1 : Int32)))).1 ?_
    refine XS.iloadN X0.here hx rfl (hb hby d20_5) rfl ?_
    refine XS.goto X0.here hx rfl (pc0 := 6) (pc' := 10) rfl (hb hby d20_6) (by decide) (by decide) ?_
    exact k
  obtain ⟨fs, hr, hrun, hended, hW, hsame⟩ := X0.leave (v := some (.int (10 : Int32))) (fun h => by rw [Bd.returns] at h; cases h)
  refine ⟨_, _, ?_, hrun, hended, _, _, rfl, ?_, ⟨_, rfl⟩, hW, hsame.mono (by decide) (by decide)⟩
  · show Steps p.tables e below (s₁.setTop (mkF m 10 #[.val (.int (10 : Int32)), .val (.int (1 : Int32))] [(.int (10 : Int32))])) _
    exact retOut X0 hx Bd.returns rfl (Or.inl ⟨rfl, Or.inl rfl, _, rfl⟩) (hb hby d20_10) hr
  · show Qmax Z  h0 n0 _ s₁.heap _
    rw [e0]
    exact ⟨rfl, N0, rfl⟩
def QabsC (Z : State) (li : Addr) (h0 : Heap) (n0 : Nat) (v : Option Value) (h : Heap) (L : List Loc) : Prop := v = none ∧ Fr n0 L ∧ Keep h0 h []
theorem efabsC (m : MethodId) (x0 : Addr) : entryFrame m #[(.ref x0)] 1 = mkF m 0 #[.val (.ref x0)] [] := by first | (simp [entryFrame, mkF, argsToLocals, Value.category]; done) | rfl
set_option maxRecDepth 65536 in
set_option maxHeartbeats 40000000 in
theorem absC (l : Launch) (Z : State) (a0 : Array Value) (hw : ∀ d ∈ tables_1, d.before a0 Z = true) (ws : List Jvm.Cond) (li : Addr) (h0 : Heap) (n0 : Nat) (Z0 : n0 ≤ h0.size) (P0 : Exa Z h0 li "java/util/ArrayList") :
    MetFree l (⟨"java/util/AbstractCollection", "<init>", "()V"⟩ : MethodName) (head1 (Jvm.Cond.code (⟨"java/util/AbstractCollection", "<init>", "()V"⟩ : MethodName) jdk_22_method_1_code 1 none :: ws) ({ frames := 1, cells := 0, slots := 0, locals := 12 } : Room)) (fun a U => a = #[(.ref li)] ∧ Z.Warmed39 U.vm ∧ U.heap = h0) (fun _ _ _ _ _ => True) (fun _ U o U' => ∃ v L, o = .returned v ∧ QabsC Z li h0 n0 v U'.heap L ∧ FrameEnd U o U' L ({ frames := 1, cells := 0, slots := 0, locals := 12 } : Room).cells ({ frames := 1, cells := 0, slots := 0, locals := 12 } : Room).slots) := by
  refine MetFree.of_bodySF (plainFor_of_name pn_3) hisR ?_
  intro p e s m args below meth c s₁ Bd hml0 hP hK
  obtain ⟨rfl, hZ, hh⟩ := hP
  have hx := Bd.exec
  have hby := Bd.bytes
  have hml : c.maxLocals = 1 := hml0
  have hown : s.vm.findClass "java/util/AbstractCollection" = some m.cls := findClass_of_methodNamed Bd.named
  have hnm := (name_of_methodNamed Bd.named Bd.method).1
  have X0 : Stand p l e ({ frames := 1, cells := 0, slots := 0, locals := 12 } : Room) s m #[(.ref li)] below meth c s₁ [] 0 0 := Stand.of_body Bd
  have e0 : s₁.heap = h0 := by rw [← hh, Bd.state]; rfl
  have N0 := Fr.nil n0
  have K0 : Keep h0 h0 [] := Keep.refl h0 _
  refine own_go (B := s₁.setTop (mkF m 0 #[.val (.ref li)] [])) (fun t k => castTop (efabsC m li) k) ?_
  refine own_go (B := s₁.setTop (mkF m 1 #[.val (.ref li)] [(.ref li)])) (fun t k => ?_) ?_
  · refine XS.aloadN X0.here hx rfl (hb hby d10_0) rfl rfl ?_
    exact k
  obtain ⟨T247, X247, e247, st247⟩ := initO X0 hx hZ hown (own_w hw 55 rfl) (own_w hw 22 rfl) (own_w hw 23 rfl) e0 (g := (mkF m 1 #[.val (.ref li)] [(.ref li)])) rfl (by rw [hml]; rfl) rfl (hb hby d10_1) (by decide) (W := 0) (by show 2 * 0 + _ ≤ _; exact Nat.le_of_eq rfl) (by decide)
  refine own_go st247 ?_
  obtain ⟨fs, hr, hrun, hended, hW, hsame⟩ := X247.leave (v := none) (fun _ => rfl)
  refine ⟨_, _, ?_, hrun, hended, _, _, rfl, ?_, ⟨_, rfl⟩, hW, hsame.mono (by decide) (by decide)⟩
  · show Steps p.tables e below (T247.setTop (mkF m 4 #[.val (.ref li)] [])) _
    exact X247.returnOut hx Bd.returns (hb hby d10_4) hr
  · show QabsC Z li h0 n0 _ T247.heap _
    rw [e247]
    exact ⟨rfl, N0, K0⟩
def QabsL (Z : State) (li : Addr) (h0 : Heap) (n0 : Nat) (v : Option Value) (h : Heap) (L : List Loc) : Prop := v = none ∧ Fr n0 L ∧ Keep h0 h [li] ∧ Fld Z h li "java/util/AbstractList" "modCount" "I" (.int (0 : Int32)) ∧ Fld Z h li "java/util/ArrayList" "elementData" "[Ljava/lang/Object;" .null ∧ Fld Z h li "java/util/ArrayList" "size" "I" (.int (0 : Int32))
theorem efabsL (m : MethodId) (x0 : Addr) : entryFrame m #[(.ref x0)] 1 = mkF m 0 #[.val (.ref x0)] [] := by first | (simp [entryFrame, mkF, argsToLocals, Value.category]; done) | rfl
set_option maxRecDepth 65536 in
set_option maxHeartbeats 40000000 in
theorem absL (l : Launch) (Z : State) (a0 : Array Value) (hw : ∀ d ∈ tables_1, d.before a0 Z = true) (ws : List Jvm.Cond) (li : Addr) (h0 : Heap) (n0 : Nat) (Z0 : n0 ≤ h0.size) (P0 : Exa Z h0 li "java/util/ArrayList") (P1 : Fld Z h0 li "java/util/AbstractList" "modCount" "I" (.int (0 : Int32))) (P2 : Fld Z h0 li "java/util/ArrayList" "elementData" "[Ljava/lang/Object;" .null) (P3 : Fld Z h0 li "java/util/ArrayList" "size" "I" (.int (0 : Int32))) (g_li : n0 ≤ li) :
    MetFree l (⟨"java/util/AbstractList", "<init>", "()V"⟩ : MethodName) (head1 (Jvm.Cond.code (⟨"java/util/AbstractList", "<init>", "()V"⟩ : MethodName) jdk_39_method_1_code 1 none :: ws) ({ frames := 2, cells := 0, slots := 0, locals := 24 } : Room)) (fun a U => a = #[(.ref li)] ∧ Z.Warmed39 U.vm ∧ U.heap = h0) (fun _ _ _ _ _ => True) (fun _ U o U' => ∃ v L, o = .returned v ∧ QabsL Z li h0 n0 v U'.heap L ∧ FrameEnd U o U' L ({ frames := 2, cells := 0, slots := 0, locals := 24 } : Room).cells ({ frames := 2, cells := 0, slots := 0, locals := 24 } : Room).slots) := by
  refine MetFree.of_bodySF (plainFor_of_name pn_4) hisR ?_
  intro p e s m args below meth c s₁ Bd hml0 hP hK
  obtain ⟨rfl, hZ, hh⟩ := hP
  have hx := Bd.exec
  have hby := Bd.bytes
  have hml : c.maxLocals = 1 := hml0
  have hown : s.vm.findClass "java/util/AbstractList" = some m.cls := findClass_of_methodNamed Bd.named
  have hnm := (name_of_methodNamed Bd.named Bd.method).1
  have X0 : Stand p l e ({ frames := 2, cells := 0, slots := 0, locals := 24 } : Room) s m #[(.ref li)] below meth c s₁ [] 0 0 := Stand.of_body Bd
  have e0 : s₁.heap = h0 := by rw [← hh, Bd.state]; rfl
  have N0 := Fr.nil n0
  have K0 : Keep h0 h0 [li] := Keep.refl h0 _
  refine own_go (B := s₁.setTop (mkF m 0 #[.val (.ref li)] [])) (fun t k => castTop (efabsL m li) k) ?_
  refine own_go (B := s₁.setTop (mkF m 1 #[.val (.ref li)] [(.ref li)])) (fun t k => ?_) ?_
  · refine XS.aloadN X0.here hx rfl (hb hby d9_0) rfl rfl ?_
    exact k
  obtain ⟨_, _, ⟨T248, L248, k248, n248⟩, -, X248, ⟨Lc248, hQ248, l248, y248, z248⟩, st248⟩ := X0.specialBack hx (y := (⟨"java/util/AbstractCollection", "<init>", "()V"⟩ : MethodName)) rfl hown (mvT hZ (own_w hw 49 rfl)) (mvT hZ (own_w hw 50 rfl)) (mvT hZ (own_w hw 54 rfl)) (by decide) (backOf (W := 0) (absC l Z a0 hw [] li h0 n0 Z0 P0) hZ (own_w hw 54 rfl) (own_w hw 53 rfl) (by decide) (by decide)) (g := (mkF m 1 #[.val (.ref li)] [(.ref li)])) rfl (by rw [hml]; rfl) (Steps.refl _) (a := li) (argsL := []) (rest := []) (lenOf pd_5 rfl) rfl (by show 2 * 0 + _ ≤ _; exact Nat.le_of_eq rfl) (hb hby d9_1) (fun _ _ => ⟨rfl, e0, (by decide : 0 + 0 ≤ _), (by decide : 0 + 0 ≤ _)⟩)
  dsimp only [Pt.U, Pt.locs, Pt.cells, Pt.slots] at X248 l248 y248 z248 st248 hQ248
  subst l248 y248 z248
  obtain ⟨rfl, Nq248, Kq248⟩ := hQ248
  have Q249 : Exa Z T248.heap li "java/util/ArrayList" := P0.keep Kq248
  have Q250 : Fld Z T248.heap li "java/util/AbstractList" "modCount" "I" (.int (0 : Int32)) := P1.keep Kq248 nin0
  have Q251 : Fld Z T248.heap li "java/util/ArrayList" "elementData" "[Ljava/lang/Object;" .null := P2.keep Kq248 nin0
  have Q252 : Fld Z T248.heap li "java/util/ArrayList" "size" "I" (.int (0 : Int32)) := P3.keep Kq248 nin0
  have Z248 : n0 ≤ T248.heap.size := Nat.le_trans Z0 Kq248.1
  have K248 : Keep h0 T248.heap [li] := K0.trans Kq248 all0
  have N248 := Fr.app N0 Nq248
  refine own_go (B := T248.setTop (mkF m 4 #[.val (.ref li)] [])) (fun t k => st248.trans k) ?_
  refine own_go (B := T248.setTop (mkF m 6 #[.val (.ref li)] [(.int (0 : Int32)), (.ref li)])) (fun t k => ?_) ?_
  · refine XS.aloadN X248.here hx rfl (hb hby d9_4) rfl rfl ?_
    refine XS.iconst X248.here hx rfl (hb hby d9_5) ?_
    exact k
  obtain ⟨T253, h253, X253, e253, W253, st253⟩ := putF X248 hx hZ hown (host := "") (Or.inl (own_w hw 56 rfl)) Via.refl rfl Q250 Q249 (Or.inl (own_w hw 57 rfl)) (own_w hw 38 rfl) (ty := .int) (by decide) rfl rfl (g := (mkF m 6 #[.val (.ref li)] [(.int (0 : Int32)), (.ref li)])) rfl rfl (hb hby d9_6)
  have Q254 : Exa Z h253 li "java/util/ArrayList" := Q249.wr W253
  have Q255 : Fld Z h253 li "java/util/ArrayList" "elementData" "[Ljava/lang/Object;" .null := Q251.other W253 (Or.inr (slot_ne (Or.inl (own_w hw 60 rfl)) (Or.inl (own_w hw 57 rfl)) (by decide) (t := (.array (.object "java/lang/Object"))) (t' := .int) (by decide) (by decide)))
  have Q256 : Fld Z h253 li "java/util/ArrayList" "size" "I" (.int (0 : Int32)) := Q252.other W253 (Or.inr (slot_ne (Or.inl (own_w hw 95 rfl)) (Or.inl (own_w hw 57 rfl)) (by decide) (t := .int) (t' := .int) (by decide) (by decide)))
  have U253 : Fld Z h253 li "java/util/AbstractList" "modCount" "I" (.int (0 : Int32)) := Q250.same W253
  have Z253 : n0 ≤ h253.size := Nat.le_trans Z248 (Keep.of_wr W253).1
  have N253 := Fr.snoc X253 N248 g_li
  have K253 := K248.wr W253 (Or.inl (List.mem_of_getElem? (i := 0) rfl))
  refine own_go st253 ?_
  obtain ⟨fs, hr, hrun, hended, hW, hsame⟩ := X253.leave (v := none) (fun _ => rfl)
  refine ⟨_, _, ?_, hrun, hended, _, _, rfl, ?_, ⟨_, rfl⟩, hW, hsame.mono (by decide) (by decide)⟩
  · show Steps p.tables e below (T253.setTop (mkF m 9 #[.val (.ref li)] [])) _
    exact X253.returnOut hx Bd.returns (hb hby d9_9) hr
  · show QabsL Z li h0 n0 _ T253.heap _
    rw [e253]
    exact ⟨rfl, N253, K253, U253, Q255, Q256⟩
def QalI (Z : State) (li : Addr) (de : Addr) (h0 : Heap) (n0 : Nat) (v : Option Value) (h : Heap) (L : List Loc) : Prop := v = none ∧ Fr n0 L ∧ Keep h0 h [li] ∧ Fld Z h li "java/util/AbstractList" "modCount" "I" (.int (0 : Int32)) ∧ Fld Z h li "java/util/ArrayList" "elementData" "[Ljava/lang/Object;" (.ref de) ∧ Fld Z h li "java/util/ArrayList" "size" "I" (.int (0 : Int32))
theorem efalI (m : MethodId) (x0 : Addr) : entryFrame m #[(.ref x0)] 1 = mkF m 0 #[.val (.ref x0)] [] := by first | (simp [entryFrame, mkF, argsToLocals, Value.category]; done) | rfl
set_option maxRecDepth 65536 in
set_option maxHeartbeats 40000000 in
theorem alI (l : Launch) (Z : State) (a0 : Array Value) (hw : ∀ d ∈ tables_1, d.before a0 Z = true) (ws : List Jvm.Cond) (li : Addr) (de : Addr) (h0 : Heap) (n0 : Nat) (Z0 : n0 ≤ h0.size) (P0 : Exa Z h0 li "java/util/ArrayList") (P1 : Fld Z h0 li "java/util/AbstractList" "modCount" "I" (.int (0 : Int32))) (P2 : Fld Z h0 li "java/util/ArrayList" "elementData" "[Ljava/lang/Object;" .null) (P3 : Fld Z h0 li "java/util/ArrayList" "size" "I" (.int (0 : Int32))) (P4 : Sta Z h0 "java/util/ArrayList" "DEFAULTCAPACITY_EMPTY_ELEMENTDATA" "[Ljava/lang/Object;" (.ref de)) (g_li : n0 ≤ li) :
    MetFree l (⟨"java/util/ArrayList", "<init>", "()V"⟩ : MethodName) (head1 (Jvm.Cond.code (⟨"java/util/ArrayList", "<init>", "()V"⟩ : MethodName) jdk_38_method_2_code 1 none :: ws) ({ frames := 3, cells := 0, slots := 0, locals := 36 } : Room)) (fun a U => a = #[(.ref li)] ∧ Z.Warmed39 U.vm ∧ U.heap = h0) (fun _ _ _ _ _ => True) (fun _ U o U' => ∃ v L, o = .returned v ∧ QalI Z li de h0 n0 v U'.heap L ∧ FrameEnd U o U' L ({ frames := 3, cells := 0, slots := 0, locals := 36 } : Room).cells ({ frames := 3, cells := 0, slots := 0, locals := 36 } : Room).slots) := by
  refine MetFree.of_bodySF (plainFor_of_name pn_5) hisR ?_
  intro p e s m args below meth c s₁ Bd hml0 hP hK
  obtain ⟨rfl, hZ, hh⟩ := hP
  have hx := Bd.exec
  have hby := Bd.bytes
  have hml : c.maxLocals = 1 := hml0
  have hown : s.vm.findClass "java/util/ArrayList" = some m.cls := findClass_of_methodNamed Bd.named
  have hnm := (name_of_methodNamed Bd.named Bd.method).1
  have X0 : Stand p l e ({ frames := 3, cells := 0, slots := 0, locals := 36 } : Room) s m #[(.ref li)] below meth c s₁ [] 0 0 := Stand.of_body Bd
  have e0 : s₁.heap = h0 := by rw [← hh, Bd.state]; rfl
  have N0 := Fr.nil n0
  have K0 : Keep h0 h0 [li] := Keep.refl h0 _
  refine own_go (B := s₁.setTop (mkF m 0 #[.val (.ref li)] [])) (fun t k => castTop (efalI m li) k) ?_
  refine own_go (B := s₁.setTop (mkF m 1 #[.val (.ref li)] [(.ref li)])) (fun t k => ?_) ?_
  · refine XS.aloadN X0.here hx rfl (hb hby d8_0) rfl rfl ?_
    exact k
  obtain ⟨_, _, ⟨T257, L257, k257, n257⟩, -, X257, ⟨Lc257, hQ257, l257, y257, z257⟩, st257⟩ := X0.specialBack hx (y := (⟨"java/util/AbstractList", "<init>", "()V"⟩ : MethodName)) rfl hown (mvT hZ (own_w hw 43 rfl)) (mvT hZ (own_w hw 44 rfl)) (mvT hZ (own_w hw 48 rfl)) (by decide) (backOf (W := 0) (absL l Z a0 hw [] li h0 n0 Z0 P0 P1 P2 P3 g_li) hZ (own_w hw 48 rfl) (own_w hw 47 rfl) (by decide) (by decide)) (g := (mkF m 1 #[.val (.ref li)] [(.ref li)])) rfl (by rw [hml]; rfl) (Steps.refl _) (a := li) (argsL := []) (rest := []) (lenOf pd_5 rfl) rfl (by show 2 * 0 + _ ≤ _; exact Nat.le_of_eq rfl) (hb hby d8_1) (fun _ _ => ⟨rfl, e0, (by decide : 0 + 0 ≤ _), (by decide : 0 + 0 ≤ _)⟩)
  dsimp only [Pt.U, Pt.locs, Pt.cells, Pt.slots] at X257 l257 y257 z257 st257 hQ257
  subst l257 y257 z257
  obtain ⟨rfl, Nq257, Kq257, U257_0, U257_1, U257_2⟩ := hQ257
  have Q258 : Exa Z T257.heap li "java/util/ArrayList" := P0.keep Kq257
  have Q259 : Sta Z T257.heap "java/util/ArrayList" "DEFAULTCAPACITY_EMPTY_ELEMENTDATA" "[Ljava/lang/Object;" (.ref de) := own_staK P4 Kq257 (nsS (own_nsE P0) ns0)
  have Z257 : n0 ≤ T257.heap.size := Nat.le_trans Z0 Kq257.1
  have K257 : Keep h0 T257.heap [li] := K0.trans Kq257 (allS (Or.inl (List.mem_of_getElem? (i := 0) rfl)) all0)
  have N257 := Fr.app N0 Nq257
  refine own_go (B := T257.setTop (mkF m 4 #[.val (.ref li)] [])) (fun t k => st257.trans k) ?_
  refine own_go (B := T257.setTop (mkF m 5 #[.val (.ref li)] [(.ref li)])) (fun t k => ?_) ?_
  · refine XS.aloadN X257.here hx rfl (hb hby d8_4) rfl rfl ?_
    exact k
  obtain ⟨T260, X260, e260, st260⟩ := getS2 X257 hx hZ hown (host := "") (Or.inl (own_w hw 58 rfl)) Via.refl rfl Q259 (g := (mkF m 5 #[.val (.ref li)] [(.ref li)])) rfl (hb hby d8_5)
  refine own_go st260 ?_
  obtain ⟨T261, h261, X261, e261, W261, st261⟩ := putF X260 hx hZ hown (host := "") (Or.inl (own_w hw 59 rfl)) Via.refl e260 U257_1 Q258 (Or.inl (own_w hw 60 rfl)) (own_w hw 38 rfl) (ty := (.array (.object "java/lang/Object"))) (by decide) rfl rfl (g := (mkF m 8 #[.val (.ref li)] [(.ref de), (.ref li)])) rfl rfl (hb hby d8_8)
  have Q262 : Exa Z h261 li "java/util/ArrayList" := Q258.wr W261
  have Q263 : Sta Z h261 "java/util/ArrayList" "DEFAULTCAPACITY_EMPTY_ELEMENTDATA" "[Ljava/lang/Object;" (.ref de) := Q259.wr W261
  have Q264 : Fld Z h261 li "java/util/AbstractList" "modCount" "I" (.int (0 : Int32)) := U257_0.other W261 (Or.inr (slot_ne (Or.inl (own_w hw 57 rfl)) (Or.inl (own_w hw 60 rfl)) (by decide) (t := .int) (t' := (.array (.object "java/lang/Object"))) (by decide) (by decide)))
  have Q265 : Fld Z h261 li "java/util/ArrayList" "size" "I" (.int (0 : Int32)) := U257_2.other W261 (Or.inr (slot_ne (Or.inl (own_w hw 95 rfl)) (Or.inl (own_w hw 60 rfl)) (by decide) (t := .int) (t' := (.array (.object "java/lang/Object"))) (by decide) (by decide)))
  have U261 : Fld Z h261 li "java/util/ArrayList" "elementData" "[Ljava/lang/Object;" (.ref de) := U257_1.same W261
  have Z261 : n0 ≤ h261.size := Nat.le_trans Z257 (Keep.of_wr W261).1
  have N261 := Fr.snoc X261 N257 g_li
  have K261 := K257.wr W261 (Or.inl (List.mem_of_getElem? (i := 0) rfl))
  refine own_go st261 ?_
  obtain ⟨fs, hr, hrun, hended, hW, hsame⟩ := X261.leave (v := none) (fun _ => rfl)
  refine ⟨_, _, ?_, hrun, hended, _, _, rfl, ?_, ⟨_, rfl⟩, hW, hsame.mono (by decide) (by decide)⟩
  · show Steps p.tables e below (T261.setTop (mkF m 11 #[.val (.ref li)] [])) _
    exact X261.returnOut hx Bd.returns (hb hby d8_11) hr
  · show QalI Z li de h0 n0 _ T261.heap _
    rw [e261]
    exact ⟨rfl, N261, K261, Q264, U261, Q265⟩
def Qgr1 (Z : State) (li : Addr) (de : Addr) (kd : ClassId) (mc : Int32) (h0 : Heap) (n0 : Nat) (v : Option Value) (h : Heap) (L : List Loc) : Prop := ∃ br : Addr, ∃ kb : ClassId, v = some (.ref br) ∧ Fr n0 L ∧ Keep h0 h [li] ∧ h0.size ≤ br ∧ li ≠ br ∧ Fld Z h li "java/util/ArrayList" "size" "I" (.int (0 : Int32)) ∧ Fld Z h li "java/util/ArrayList" "elementData" "[Ljava/lang/Object;" (.ref br) ∧ Fld Z h li "java/util/AbstractList" "modCount" "I" (.int mc) ∧ Arv Z h br kb (.object "java/lang/Object") (10 : Int32) [.null, .null, .null, .null, .null, .null, .null, .null, .null, .null] .null ∧ (Ovr Z kb "java/lang/Object")
theorem efgr1 (m : MethodId) (x0 : Addr) : entryFrame m #[(.ref x0), (.int (1 : Int32))] 4 = mkF m 0 #[.val (.ref x0), .val (.int (1 : Int32)), .unset, .unset] [] := by first | (simp [entryFrame, mkF, argsToLocals, Value.category]; done) | rfl
set_option maxRecDepth 65536 in
set_option maxHeartbeats 40000000 in
theorem gr1 (l : Launch) (Z : State) (a0 : Array Value) (hw : ∀ d ∈ tables_1, d.before a0 Z = true) (ws : List Jvm.Cond) (li : Addr) (de : Addr) (kd : ClassId) (mc : Int32) (h0 : Heap) (n0 : Nat) (Z0 : n0 ≤ h0.size) (P0 : Exa Z h0 li "java/util/ArrayList") (P1 : Fld Z h0 li "java/util/ArrayList" "size" "I" (.int (0 : Int32))) (P2 : Fld Z h0 li "java/util/ArrayList" "elementData" "[Ljava/lang/Object;" (.ref de)) (P3 : Fld Z h0 li "java/util/AbstractList" "modCount" "I" (.int mc)) (P4 : Sta Z h0 "java/util/ArrayList" "DEFAULTCAPACITY_EMPTY_ELEMENTDATA" "[Ljava/lang/Object;" (.ref de)) (P5 : Arv Z h0 de kd (.object "java/lang/Object") (0 : Int32) [] .null) (g_li : n0 ≤ li) (ne_de_li : de ≠ li) :
    MetFree l (⟨"java/util/ArrayList", "grow", "(I)[Ljava/lang/Object;"⟩ : MethodName) (head1 (Jvm.Cond.code (⟨"java/util/ArrayList", "grow", "(I)[Ljava/lang/Object;"⟩ : MethodName) jdk_38_method_6_code 4 (some (.array (.object "java/lang/Object"))) :: ws) ({ frames := 1, cells := 1, slots := 10, locals := 14 } : Room)) (fun a U => a = #[(.ref li), (.int (1 : Int32))] ∧ Z.Warmed39 U.vm ∧ U.heap = h0) (fun _ _ _ _ _ => True) (fun _ U o U' => ∃ v L, o = .returned v ∧ Qgr1 Z li de kd mc h0 n0 v U'.heap L ∧ FrameEnd U o U' L ({ frames := 1, cells := 1, slots := 10, locals := 14 } : Room).cells ({ frames := 1, cells := 1, slots := 10, locals := 14 } : Room).slots) := by
  refine MetFree.of_bodySF (plainFor_of_name pn_5) hisR ?_
  intro p e s m args below meth c s₁ Bd hml0 hP hK
  obtain ⟨rfl, hZ, hh⟩ := hP
  have hx := Bd.exec
  have hby := Bd.bytes
  have hml : c.maxLocals = 4 := hml0
  have hown : s.vm.findClass "java/util/ArrayList" = some m.cls := findClass_of_methodNamed Bd.named
  have hnm := (name_of_methodNamed Bd.named Bd.method).1
  have X0 : Stand p l e ({ frames := 1, cells := 1, slots := 10, locals := 14 } : Room) s m #[(.ref li), (.int (1 : Int32))] below meth c s₁ [] 0 0 := Stand.of_body Bd
  have e0 : s₁.heap = h0 := by rw [← hh, Bd.state]; rfl
  have N0 := Fr.nil n0
  have K0 : Keep h0 h0 [li] := Keep.refl h0 _
  refine own_go (B := s₁.setTop (mkF m 0 #[.val (.ref li), .val (.int (1 : Int32)), .unset, .unset] [])) (fun t k => castTop (efgr1 m li) k) ?_
  refine own_go (B := s₁.setTop (mkF m 1 #[.val (.ref li), .val (.int (1 : Int32)), .unset, .unset] [(.ref li)])) (fun t k => ?_) ?_
  · refine XS.aloadN X0.here hx rfl (hb hby d19_0) rfl rfl ?_
    exact k
  obtain ⟨T266, X266, e266, st266⟩ := getF X0 hx hZ hown (host := "") (Or.inl (own_w hw 59 rfl)) Via.refl e0 P2 (g := (mkF m 1 #[.val (.ref li), .val (.int (1 : Int32)), .unset, .unset] [(.ref li)])) rfl rfl (hb hby d19_1)
  refine own_go st266 ?_
  obtain ⟨cl267, Ar267, q267, S267, M267, Ha267, G267⟩ := id P5
  refine own_go (B := T266.setTop (mkF m 5 #[.val (.ref li), .val (.int (1 : Int32)), .unset, .unset] [(.int (0 : Int32))])) (fun t k => ?_) ?_
  · refine X266.arraylength hx (by rw [e266]; exact Ar267.1) (State.isArrayOf_alike hZ.alike Ar267.2.1) (g := (mkF m 4 #[.val (.ref li), .val (.int (1 : Int32)), .unset, .unset] [(.ref de)])) rfl rfl (hb hby d19_4) _ ?_
    rw [len_of S267 M267]
    exact k
  refine own_go (B := T266.setTop (mkF m 11 #[.val (.ref li), .val (.int (1 : Int32)), .val (.int (0 : Int32)), .unset] [(.ref li)])) (fun t k => ?_) ?_
  · refine XS.istoreN X266.here hx rfl (hb hby d19_5) rfl (l' := #[.val (.ref li), .val (.int (1 : Int32)), .val (.int (0 : Int32)), .unset]) rfl ?_
    refine XS.iloadN X266.here hx rfl (hb hby d19_6) rfl ?_
    refine XS.ifNo X266.here hx rfl (hb hby d19_7) rfl ((if0 _ _).trans (flt Int32.lt_irrefl).2.2.1) ?_
    refine XS.aloadN X266.here hx rfl (hb hby d19_10) rfl rfl ?_
    exact k
  obtain ⟨T269, X269, e269, st269⟩ := getF X266 hx hZ hown (host := "") (Or.inl (own_w hw 59 rfl)) Via.refl e266 P2 (g := (mkF m 11 #[.val (.ref li), .val (.int (1 : Int32)), .val (.int (0 : Int32)), .unset] [(.ref li)])) rfl rfl (hb hby d19_11)
  refine own_go st269 ?_
  obtain ⟨T270, X270, e270, st270⟩ := getS2 X269 hx hZ hown (host := "") (Or.inl (own_w hw 58 rfl)) Via.refl e269 P4 (g := (mkF m 14 #[.val (.ref li), .val (.int (1 : Int32)), .val (.int (0 : Int32)), .unset] [(.ref de)])) rfl (hb hby d19_14)
  refine own_go st270 ?_
  refine own_go (B := T270.setTop (mkF m 49 #[.val (.ref li), .val (.int (1 : Int32)), .val (.int (0 : Int32)), .unset] [(.int (1 : Int32)), (.int (10 : Int32)), (.ref li)])) (fun t k => ?_) ?_
  · refine Jvm.RoadKit.acmp (g := (mkF m 17 #[.val (.ref li), .val (.int (1 : Int32)), .val (.int (0 : Int32)), .unset] [(.ref de), (.ref de)])) X270 hx rfl rfl rfl (pc0 := 17) (pc' := 45) (same := true) rfl (hb hby d19_17) rfl (decide_eq_true rfl) (by decide) (by decide) ?_
    refine XS.aloadN X270.here hx rfl (hb hby d19_45) rfl rfl ?_
    refine XS.bipush X270.here hx rfl (hb hby d19_46) ?_
    refine XS.iloadN X270.here hx rfl (hb hby d19_48) rfl ?_
    exact k
  obtain ⟨_, _, ⟨T271, L271, k271, n271⟩, -, X271, ⟨Lc271, hQ271, l271, y271, z271⟩, st271⟩ := Jvm.LawKit.callS X270 hx (y := (⟨"java/lang/Math", "max", "(II)I"⟩ : MethodName)) hown (mvT hZ (own_w hw 122 rfl)) (mvT hZ (own_w hw 123 rfl)) (mvT hZ (own_w hw 124 rfl)) (mvT hZ (own_w hw 125 rfl)) (by decide) (backOf (W := 1) (max l Z a0 hw []  h0 n0 Z0 ) hZ (own_w hw 125 rfl) (own_w hw 124 rfl) (by decide) (by decide)) (g := (mkF m 49 #[.val (.ref li), .val (.int (1 : Int32)), .val (.int (0 : Int32)), .unset] [(.int (1 : Int32)), (.int (10 : Int32)), (.ref li)])) rfl (by rw [hml]; rfl) (argsL := [(.int (10 : Int32)), (.int (1 : Int32))]) (rest := [(.ref li)]) (lenOf pd_6 rfl) rfl (by show 2 * 0 + _ ≤ _; exact Nat.le_of_eq rfl) (hb hby d19_49) (fun _ _ => ⟨rfl, e270, (by decide : 0 + 0 ≤ _), (by decide : 0 + 0 ≤ _)⟩)
  dsimp only [Pt.U, Pt.locs, Pt.cells, Pt.slots] at X271 l271 y271 z271 st271 hQ271
  subst l271 y271 z271
  obtain ⟨rfl, Nq271, e271⟩ := hQ271
  have N271 := Fr.app N0 Nq271
  refine own_go (B := T271.setTop (mkF m 52 #[.val (.ref li), .val (.int (1 : Int32)), .val (.int (0 : Int32)), .unset] [(.int (10 : Int32)), (.ref li)])) st271 ?_
  obtain ⟨T272, h272, k272, X272, e272, E272, A272, O272, st272⟩ := newR X271 hx hZ hown (own_w hw 126 rfl) (own_w hw 127 rfl) e271 (g := (mkF m 52 #[.val (.ref li), .val (.int (1 : Int32)), .val (.int (0 : Int32)), .unset] [(.int (10 : Int32)), (.ref li)])) rfl (hb hby d19_52) rfl (by decide) (cap := 10) (by decide) (by decide) (by decide) (by decide)
  obtain ⟨b272, g272⟩ : ∃ z, z = h0.size := ⟨_, rfl⟩
  rw [← g272] at A272 st272
  have ne272_de : de ≠ b272 := Nat.ne_of_lt (Nat.lt_of_lt_of_le P5.lt (Nat.le_of_eq g272.symm))
  have ne272_li : li ≠ b272 := Nat.ne_of_lt (Nat.lt_of_lt_of_le P0.lt (Nat.le_of_eq g272.symm))
  have low272 : n0 ≤ b272 := Nat.le_trans Z0 (Nat.le_of_eq g272.symm)
  have sz272 : h0.size ≤ b272 := Nat.le_trans K0.1 (Nat.le_of_eq g272.symm)
  have Q273 : Exa Z h272 li "java/util/ArrayList" := P0.ext E272
  have Q274 : Fld Z h272 li "java/util/ArrayList" "size" "I" (.int (0 : Int32)) := P1.ext E272
  have Q275 : Fld Z h272 li "java/util/ArrayList" "elementData" "[Ljava/lang/Object;" (.ref de) := P2.ext E272
  have Q276 : Fld Z h272 li "java/util/AbstractList" "modCount" "I" (.int mc) := P3.ext E272
  have Q277 : Sta Z h272 "java/util/ArrayList" "DEFAULTCAPACITY_EMPTY_ELEMENTDATA" "[Ljava/lang/Object;" (.ref de) := P4.ext E272
  have Q278 : Arv Z h272 de kd (.object "java/lang/Object") (0 : Int32) [] .null := P5.ext E272
  have Z272 : n0 ≤ h272.size := Nat.le_trans Z0 E272.1
  have K272 := K0.ext E272
  have V272 : Arv Z h272 b272 k272 (.object "java/lang/Object") (10 : Int32) [.null, .null, .null, .null, .null, .null, .null, .null, .null, .null] .null := (Arv.new A272 (by decide)).pad (pad_rep [] .null 10)
  refine own_go st272 ?_
  refine own_go (B := T272.setTop (mkF m 56 #[.val (.ref li), .val (.int (1 : Int32)), .val (.int (0 : Int32)), .unset] [(.ref b272), (.ref li), (.ref b272)])) (fun t k => ?_) ?_
  · refine XS.dupX1 X272.here hx rfl (hb hby d19_55) rfl rfl rfl ?_
    exact k
  obtain ⟨T279, h279, X279, e279, W279, st279⟩ := putF X272 hx hZ hown (host := "") (Or.inl (own_w hw 59 rfl)) Via.refl e272 Q275 Q273 (Or.inl (own_w hw 60 rfl)) (own_w hw 38 rfl) (ty := (.array (.object "java/lang/Object"))) (by decide) rfl rfl (g := (mkF m 56 #[.val (.ref li), .val (.int (1 : Int32)), .val (.int (0 : Int32)), .unset] [(.ref b272), (.ref li), (.ref b272)])) rfl rfl (hb hby d19_56)
  have Q280 : Exa Z h279 li "java/util/ArrayList" := Q273.wr W279
  have Q281 : Fld Z h279 li "java/util/ArrayList" "size" "I" (.int (0 : Int32)) := Q274.other W279 (Or.inr (slot_ne (Or.inl (own_w hw 95 rfl)) (Or.inl (own_w hw 60 rfl)) (by decide) (t := .int) (t' := (.array (.object "java/lang/Object"))) (by decide) (by decide)))
  have Q282 : Fld Z h279 li "java/util/AbstractList" "modCount" "I" (.int mc) := Q276.other W279 (Or.inr (slot_ne (Or.inl (own_w hw 57 rfl)) (Or.inl (own_w hw 60 rfl)) (by decide) (t := .int) (t' := (.array (.object "java/lang/Object"))) (by decide) (by decide)))
  have Q283 : Sta Z h279 "java/util/ArrayList" "DEFAULTCAPACITY_EMPTY_ELEMENTDATA" "[Ljava/lang/Object;" (.ref de) := Q277.wr W279
  have Q284 : Arv Z h279 de kd (.object "java/lang/Object") (0 : Int32) [] .null := Q278.other W279 ne_de_li
  have Q285 : Arv Z h279 b272 k272 (.object "java/lang/Object") (10 : Int32) [.null, .null, .null, .null, .null, .null, .null, .null, .null, .null] .null := V272.other W279 (Ne.symm ne272_li)
  have U279 : Fld Z h279 li "java/util/ArrayList" "elementData" "[Ljava/lang/Object;" (.ref b272) := Q275.same W279
  have Z279 : n0 ≤ h279.size := Nat.le_trans Z272 (Keep.of_wr W279).1
  have N279 := Fr.snoc X279 N271 g_li
  have K279 := K272.wr W279 (Or.inl (List.mem_of_getElem? (i := 0) rfl))
  refine own_go st279 ?_
  obtain ⟨fs, hr, hrun, hended, hW, hsame⟩ := X279.leave (v := some (.ref b272)) (fun h => by rw [Bd.returns] at h; cases h)
  refine ⟨_, _, ?_, hrun, hended, _, _, rfl, ?_, ⟨_, rfl⟩, hW, hsame.mono (by decide) (by decide)⟩
  · show Steps p.tables e below (T279.setTop (mkF m 59 #[.val (.ref li), .val (.int (1 : Int32)), .val (.int (0 : Int32)), .unset] [(.ref b272)])) _
    exact retOut X279 hx Bd.returns rfl (Or.inr (Or.inr (Or.inr (Or.inr ⟨rfl, rfl, rfl⟩)))) (hb hby d19_59) hr
  · show Qgr1 Z li de kd mc h0 n0 _ T279.heap _
    rw [e279]
    exact ⟨b272, k272, rfl, N279, K279, sz272, ne272_li, Q281, U279, Q282, Q285, O272⟩
def Qgr0 (Z : State) (li : Addr) (de : Addr) (kd : ClassId) (mc : Int32) (h0 : Heap) (n0 : Nat) (v : Option Value) (h : Heap) (L : List Loc) : Prop := ∃ br : Addr, ∃ kb : ClassId, v = some (.ref br) ∧ Fr n0 L ∧ Keep h0 h [li] ∧ h0.size ≤ br ∧ li ≠ br ∧ Fld Z h li "java/util/ArrayList" "size" "I" (.int (0 : Int32)) ∧ Fld Z h li "java/util/ArrayList" "elementData" "[Ljava/lang/Object;" (.ref br) ∧ Fld Z h li "java/util/AbstractList" "modCount" "I" (.int mc) ∧ Arv Z h br kb (.object "java/lang/Object") (10 : Int32) [.null, .null, .null, .null, .null, .null, .null, .null, .null, .null] .null ∧ (Ovr Z kb "java/lang/Object")
theorem efgr0 (m : MethodId) (x0 : Addr) : entryFrame m #[(.ref x0)] 1 = mkF m 0 #[.val (.ref x0)] [] := by first | (simp [entryFrame, mkF, argsToLocals, Value.category]; done) | rfl
set_option maxRecDepth 65536 in
set_option maxHeartbeats 40000000 in
theorem gr0 (l : Launch) (Z : State) (a0 : Array Value) (hw : ∀ d ∈ tables_1, d.before a0 Z = true) (ws : List Jvm.Cond) (li : Addr) (de : Addr) (kd : ClassId) (mc : Int32) (h0 : Heap) (n0 : Nat) (Z0 : n0 ≤ h0.size) (P0 : Exa Z h0 li "java/util/ArrayList") (P1 : Fld Z h0 li "java/util/ArrayList" "size" "I" (.int (0 : Int32))) (P2 : Fld Z h0 li "java/util/ArrayList" "elementData" "[Ljava/lang/Object;" (.ref de)) (P3 : Fld Z h0 li "java/util/AbstractList" "modCount" "I" (.int mc)) (P4 : Sta Z h0 "java/util/ArrayList" "DEFAULTCAPACITY_EMPTY_ELEMENTDATA" "[Ljava/lang/Object;" (.ref de)) (P5 : Arv Z h0 de kd (.object "java/lang/Object") (0 : Int32) [] .null) (g_li : n0 ≤ li) (ne_de_li : de ≠ li) :
    MetFree l (⟨"java/util/ArrayList", "grow", "()[Ljava/lang/Object;"⟩ : MethodName) (head1 (Jvm.Cond.code (⟨"java/util/ArrayList", "grow", "()[Ljava/lang/Object;"⟩ : MethodName) jdk_38_method_7_code 1 (some (.array (.object "java/lang/Object"))) :: ws) ({ frames := 2, cells := 1, slots := 10, locals := 29 } : Room)) (fun a U => a = #[(.ref li)] ∧ Z.Warmed39 U.vm ∧ U.heap = h0) (fun _ _ _ _ _ => True) (fun _ U o U' => ∃ v L, o = .returned v ∧ Qgr0 Z li de kd mc h0 n0 v U'.heap L ∧ FrameEnd U o U' L ({ frames := 2, cells := 1, slots := 10, locals := 29 } : Room).cells ({ frames := 2, cells := 1, slots := 10, locals := 29 } : Room).slots) := by
  refine MetFree.of_bodySF (plainFor_of_name pn_5) hisR ?_
  intro p e s m args below meth c s₁ Bd hml0 hP hK
  obtain ⟨rfl, hZ, hh⟩ := hP
  have hx := Bd.exec
  have hby := Bd.bytes
  have hml : c.maxLocals = 1 := hml0
  have hown : s.vm.findClass "java/util/ArrayList" = some m.cls := findClass_of_methodNamed Bd.named
  have hnm := (name_of_methodNamed Bd.named Bd.method).1
  have X0 : Stand p l e ({ frames := 2, cells := 1, slots := 10, locals := 29 } : Room) s m #[(.ref li)] below meth c s₁ [] 0 0 := Stand.of_body Bd
  have e0 : s₁.heap = h0 := by rw [← hh, Bd.state]; rfl
  have N0 := Fr.nil n0
  have K0 : Keep h0 h0 [li] := Keep.refl h0 _
  refine own_go (B := s₁.setTop (mkF m 0 #[.val (.ref li)] [])) (fun t k => castTop (efgr0 m li) k) ?_
  refine own_go (B := s₁.setTop (mkF m 2 #[.val (.ref li)] [(.ref li), (.ref li)])) (fun t k => ?_) ?_
  · refine XS.aloadN X0.here hx rfl (hb hby d18_0) rfl rfl ?_
    refine XS.aloadN X0.here hx rfl (hb hby d18_1) rfl rfl ?_
    exact k
  obtain ⟨T286, X286, e286, st286⟩ := getF X0 hx hZ hown (host := "") (Or.inl (own_w hw 94 rfl)) Via.refl e0 P1 (g := (mkF m 2 #[.val (.ref li)] [(.ref li), (.ref li)])) rfl rfl (hb hby d18_2)
  refine own_go st286 ?_
  refine own_go (B := T286.setTop (mkF m 7 #[.val (.ref li)] [(.int (1 : Int32)), (.ref li)])) (fun t k => ?_) ?_
  · refine XS.iconst X286.here hx rfl (hb hby d18_5) ?_
    refine XS.iadd X286.here hx rfl (hb hby d18_6) rfl ?_
    exact k
  obtain ⟨cq287, q287, q287'⟩ := P0.cell
  obtain ⟨_, _, ⟨T287, L287, k287, n287⟩, -, X287, ⟨Lc287, hQ287, l287, y287, z287⟩, st287⟩ := X286.privateBack hx (y := (⟨"java/util/ArrayList", "grow", "(I)[Ljava/lang/Object;"⟩ : MethodName)) hown (mvT hZ (own_w hw 117 rfl)) (mvT hZ (own_w hw 118 rfl)) (mvT hZ (own_w hw 120 rfl)) (Cond.privateMethod_at (mvP hZ (own_w hw 119 rfl) (args := #[]))) (mvT hZ (own_w hw 121 rfl)) (by decide) (backOf (W := 0) (gr1 l Z a0 hw [] li de kd mc h0 n0 Z0 P0 P1 P2 P3 P4 P5 g_li ne_de_li) hZ (own_w hw 121 rfl) (own_w hw 39 rfl) (by decide) (by decide)) (g := (mkF m 7 #[.val (.ref li)] [(.int (1 : Int32)), (.ref li)])) rfl (by rw [hml]; rfl) (Steps.refl _) (a := li) (by rw [e286]; exact q287) q287' (argsL := [(.int (1 : Int32))]) (rest := []) (lenOf pd_7 rfl) rfl (by show 2 * 0 + _ ≤ _; exact Nat.le_of_eq rfl) (hb hby d18_7) (fun _ _ => ⟨rfl, e286, (by decide : 0 + 1 ≤ _), (by decide : 0 + 10 ≤ _)⟩)
  dsimp only [Pt.U, Pt.locs, Pt.cells, Pt.slots] at X287 l287 y287 z287 st287 hQ287
  subst l287 y287 z287
  obtain ⟨br_287, kb_287, rfl, Nq287, Kq287, sq_br_287, pq287_0, U287_0, U287_1, U287_2, U287_3, Pq287_0⟩ := hQ287
  have ne_de_br_287 : de ≠ br_287 := Nat.ne_of_lt (Nat.lt_of_lt_of_le P5.lt sq_br_287)
  have ne_li_br_287 : li ≠ br_287 := Nat.ne_of_lt (Nat.lt_of_lt_of_le P0.lt sq_br_287)
  have low_br_287 : n0 ≤ br_287 := Nat.le_trans Z0 sq_br_287
  have sz_br_287 : h0.size ≤ br_287 := Nat.le_trans K0.1 sq_br_287
  have Q288 : Exa Z T287.heap li "java/util/ArrayList" := P0.keep Kq287
  have Q289 : Sta Z T287.heap "java/util/ArrayList" "DEFAULTCAPACITY_EMPTY_ELEMENTDATA" "[Ljava/lang/Object;" (.ref de) := own_staK P4 Kq287 (nsS (own_nsE P0) ns0)
  have Q290 : Arv Z T287.heap de kd (.object "java/lang/Object") (0 : Int32) [] .null := P5.keep Kq287 (ninS ne_de_li nin0)
  have Z287 : n0 ≤ T287.heap.size := Nat.le_trans Z0 Kq287.1
  have K287 : Keep h0 T287.heap [li] := K0.trans Kq287 (allS (Or.inl (List.mem_of_getElem? (i := 0) rfl)) all0)
  have N287 := Fr.app N0 Nq287
  refine own_go (B := T287.setTop (mkF m 10 #[.val (.ref li)] [(.ref br_287)])) (fun t k => st287.trans k) ?_
  obtain ⟨fs, hr, hrun, hended, hW, hsame⟩ := X287.leave (v := some (.ref br_287)) (fun h => by rw [Bd.returns] at h; cases h)
  refine ⟨_, _, ?_, hrun, hended, _, _, rfl, ?_, ⟨_, rfl⟩, hW, hsame.mono (by decide) (by decide)⟩
  · show Steps p.tables e below (T287.setTop (mkF m 10 #[.val (.ref li)] [(.ref br_287)])) _
    exact retOut X287 hx Bd.returns rfl (Or.inr (Or.inr (Or.inr (Or.inr ⟨rfl, rfl, rfl⟩)))) (hb hby d18_10) hr
  · show Qgr0 Z li de kd mc h0 n0 _ T287.heap _
    skip
    exact ⟨br_287, kb_287, rfl, N287, K287, sz_br_287, ne_li_br_287, U287_0, U287_1, U287_2, U287_3, Pq287_0⟩
def Qad3_0 (Z : State) (li : Addr) (rr : Addr) (de : Addr) (kd : ClassId) (mc : Int32) (h0 : Heap) (n0 : Nat) (v : Option Value) (h : Heap) (L : List Loc) : Prop := ∃ br : Addr, ∃ kb : ClassId, v = none ∧ Fr n0 L ∧ Keep h0 h [li] ∧ h0.size ≤ br ∧ li ≠ br ∧ Fld Z h li "java/util/ArrayList" "size" "I" (.int (1 : Int32)) ∧ Fld Z h li "java/util/ArrayList" "elementData" "[Ljava/lang/Object;" (.ref br) ∧ Fld Z h li "java/util/AbstractList" "modCount" "I" (.int mc) ∧ Arv Z h br kb (.object "java/lang/Object") (10 : Int32) [(.ref rr), .null, .null, .null, .null, .null, .null, .null, .null, .null] .null ∧ (Ovr Z kb "java/lang/Object")
theorem efad3_0 (m : MethodId) (x0 : Addr) (x1 : Addr) (x2 : Addr) : entryFrame m #[(.ref x0), (.ref x1), (.ref x2), (.int (0 : Int32))] 4 = mkF m 0 #[.val (.ref x0), .val (.ref x1), .val (.ref x2), .val (.int (0 : Int32))] [] := by first | (simp [entryFrame, mkF, argsToLocals, Value.category]; done) | rfl
set_option maxRecDepth 65536 in
set_option maxHeartbeats 40000000 in
theorem ad3_0 (l : Launch) (Z : State) (a0 : Array Value) (hw : ∀ d ∈ tables_1, d.before a0 Z = true) (ws : List Jvm.Cond) (li : Addr) (rr : Addr) (de : Addr) (kd : ClassId) (mc : Int32) (h0 : Heap) (n0 : Nat) (Z0 : n0 ≤ h0.size) (P0 : Exa Z h0 li "java/util/ArrayList") (P1 : Exa Z h0 rr "java/lang/String") (P2 : Fld Z h0 li "java/util/ArrayList" "size" "I" (.int (0 : Int32))) (P3 : Fld Z h0 li "java/util/ArrayList" "elementData" "[Ljava/lang/Object;" (.ref de)) (P4 : Fld Z h0 li "java/util/AbstractList" "modCount" "I" (.int mc)) (P5 : Sta Z h0 "java/util/ArrayList" "DEFAULTCAPACITY_EMPTY_ELEMENTDATA" "[Ljava/lang/Object;" (.ref de)) (P6 : Arv Z h0 de kd (.object "java/lang/Object") (0 : Int32) [] .null) (g_li : n0 ≤ li) (ne_de_li : de ≠ li) :
    MetFree l (⟨"java/util/ArrayList", "add", "(Ljava/lang/Object;[Ljava/lang/Object;I)V"⟩ : MethodName) (head1 (Jvm.Cond.code (⟨"java/util/ArrayList", "add", "(Ljava/lang/Object;[Ljava/lang/Object;I)V"⟩ : MethodName) jdk_38_method_24_code 4 none :: ws) ({ frames := 3, cells := 1, slots := 10, locals := 41 } : Room)) (fun a U => a = #[(.ref li), (.ref rr), (.ref de), (.int (0 : Int32))] ∧ Z.Warmed39 U.vm ∧ U.heap = h0) (fun _ _ _ _ _ => True) (fun _ U o U' => ∃ v L, o = .returned v ∧ Qad3_0 Z li rr de kd mc h0 n0 v U'.heap L ∧ FrameEnd U o U' L ({ frames := 3, cells := 1, slots := 10, locals := 41 } : Room).cells ({ frames := 3, cells := 1, slots := 10, locals := 41 } : Room).slots) := by
  refine MetFree.of_bodySF (plainFor_of_name pn_5) hisR ?_
  intro p e s m args below meth c s₁ Bd hml0 hP hK
  obtain ⟨rfl, hZ, hh⟩ := hP
  have hx := Bd.exec
  have hby := Bd.bytes
  have hml : c.maxLocals = 4 := hml0
  have hown : s.vm.findClass "java/util/ArrayList" = some m.cls := findClass_of_methodNamed Bd.named
  have hnm := (name_of_methodNamed Bd.named Bd.method).1
  have X0 : Stand p l e ({ frames := 3, cells := 1, slots := 10, locals := 41 } : Room) s m #[(.ref li), (.ref rr), (.ref de), (.int (0 : Int32))] below meth c s₁ [] 0 0 := Stand.of_body Bd
  have e0 : s₁.heap = h0 := by rw [← hh, Bd.state]; rfl
  have N0 := Fr.nil n0
  have K0 : Keep h0 h0 [li] := Keep.refl h0 _
  refine own_go (B := s₁.setTop (mkF m 0 #[.val (.ref li), .val (.ref rr), .val (.ref de), .val (.int (0 : Int32))] [])) (fun t k => castTop (efad3_0 m li rr de) k) ?_
  refine own_go (B := s₁.setTop (mkF m 2 #[.val (.ref li), .val (.ref rr), .val (.ref de), .val (.int (0 : Int32))] [(.ref de), (.int (0 : Int32))])) (fun t k => ?_) ?_
  · refine XS.iloadN X0.here hx rfl (hb hby d17_0) rfl ?_
    refine XS.aloadN X0.here hx rfl (hb hby d17_1) rfl rfl ?_
    exact k
  obtain ⟨cl291, Ar291, q291, S291, M291, Ha291, G291⟩ := id P6
  refine own_go (B := s₁.setTop (mkF m 3 #[.val (.ref li), .val (.ref rr), .val (.ref de), .val (.int (0 : Int32))] [(.int (0 : Int32)), (.int (0 : Int32))])) (fun t k => ?_) ?_
  · refine X0.arraylength hx (by rw [e0]; exact Ar291.1) (State.isArrayOf_alike hZ.alike Ar291.2.1) (g := (mkF m 2 #[.val (.ref li), .val (.ref rr), .val (.ref de), .val (.int (0 : Int32))] [(.ref de), (.int (0 : Int32))])) rfl rfl (hb hby d17_2) _ ?_
    rw [len_of S291 M291]
    exact k
  refine own_go (B := s₁.setTop (mkF m 7 #[.val (.ref li), .val (.ref rr), .val (.ref de), .val (.int (0 : Int32))] [(.ref li)])) (fun t k => ?_) ?_
  · refine XS.icmpNo X0.here hx rfl (hb hby d17_3) rfl (teq (rfl : (0 : Int32) = (0 : Int32))).2 ?_
    refine XS.aloadN X0.here hx rfl (hb hby d17_6) rfl rfl ?_
    exact k
  obtain ⟨cq293, q293, q293'⟩ := P0.cell
  obtain ⟨_, _, ⟨T293, L293, k293, n293⟩, -, X293, ⟨Lc293, hQ293, l293, y293, z293⟩, st293⟩ := X0.privateBack hx (y := (⟨"java/util/ArrayList", "grow", "()[Ljava/lang/Object;"⟩ : MethodName)) hown (mvT hZ (own_w hw 112 rfl)) (mvT hZ (own_w hw 113 rfl)) (mvT hZ (own_w hw 115 rfl)) (Cond.privateMethod_at (mvP hZ (own_w hw 114 rfl) (args := #[]))) (mvT hZ (own_w hw 116 rfl)) (by decide) (backOf (W := 0) (gr0 l Z a0 hw [] li de kd mc h0 n0 Z0 P0 P2 P3 P4 P5 P6 g_li ne_de_li) hZ (own_w hw 116 rfl) (own_w hw 39 rfl) (by decide) (by decide)) (g := (mkF m 7 #[.val (.ref li), .val (.ref rr), .val (.ref de), .val (.int (0 : Int32))] [(.ref li)])) rfl (by rw [hml]; rfl) (Steps.refl _) (a := li) (by rw [e0]; exact q293) q293' (argsL := []) (rest := []) (lenOf pd_8 rfl) rfl (by show 2 * 0 + _ ≤ _; exact Nat.le_of_eq rfl) (hb hby d17_7) (fun _ _ => ⟨rfl, e0, (by decide : 0 + 1 ≤ _), (by decide : 0 + 10 ≤ _)⟩)
  dsimp only [Pt.U, Pt.locs, Pt.cells, Pt.slots] at X293 l293 y293 z293 st293 hQ293
  subst l293 y293 z293
  obtain ⟨br_293, kb_293, rfl, Nq293, Kq293, sq_br_293, pq293_0, U293_0, U293_1, U293_2, U293_3, Pq293_0⟩ := hQ293
  have ne_de_br_293 : de ≠ br_293 := Nat.ne_of_lt (Nat.lt_of_lt_of_le P6.lt sq_br_293)
  have ne_li_br_293 : li ≠ br_293 := Nat.ne_of_lt (Nat.lt_of_lt_of_le P0.lt sq_br_293)
  have ne_rr_br_293 : rr ≠ br_293 := Nat.ne_of_lt (Nat.lt_of_lt_of_le P1.lt sq_br_293)
  have low_br_293 : n0 ≤ br_293 := Nat.le_trans Z0 sq_br_293
  have sz_br_293 : h0.size ≤ br_293 := Nat.le_trans K0.1 sq_br_293
  have Q294 : Exa Z T293.heap li "java/util/ArrayList" := P0.keep Kq293
  have Q295 : Exa Z T293.heap rr "java/lang/String" := P1.keep Kq293
  have Q296 : Sta Z T293.heap "java/util/ArrayList" "DEFAULTCAPACITY_EMPTY_ELEMENTDATA" "[Ljava/lang/Object;" (.ref de) := own_staK P5 Kq293 (nsS (own_nsE P0) ns0)
  have Q297 : Arv Z T293.heap de kd (.object "java/lang/Object") (0 : Int32) [] .null := P6.keep Kq293 (ninS ne_de_li nin0)
  have Z293 : n0 ≤ T293.heap.size := Nat.le_trans Z0 Kq293.1
  have K293 : Keep h0 T293.heap [li] := K0.trans Kq293 (allS (Or.inl (List.mem_of_getElem? (i := 0) rfl)) all0)
  have N293 := Fr.app N0 Nq293
  refine own_go (B := T293.setTop (mkF m 10 #[.val (.ref li), .val (.ref rr), .val (.ref de), .val (.int (0 : Int32))] [(.ref br_293)])) (fun t k => st293.trans k) ?_
  refine own_go (B := T293.setTop (mkF m 14 #[.val (.ref li), .val (.ref rr), .val (.ref br_293), .val (.int (0 : Int32))] [(.ref rr), (.int (0 : Int32)), (.ref br_293)])) (fun t k => ?_) ?_
  · refine XS.astoreN X293.here hx rfl (hb hby d17_10) rfl rfl (l' := #[.val (.ref li), .val (.ref rr), .val (.ref br_293), .val (.int (0 : Int32))]) rfl ?_
    refine XS.aloadN X293.here hx rfl (hb hby d17_11) rfl rfl ?_
    refine XS.iloadN X293.here hx rfl (hb hby d17_12) rfl ?_
    refine XS.aloadN X293.here hx rfl (hb hby d17_13) rfl rfl ?_
    exact k
  obtain ⟨cl298, Ar298, q298, S298, M298, Ha298, G298⟩ := id U293_3
  have hin298 : ¬ ((0 : Int32) < 0 ∨ cl298.slots.size ≤ ((0 : Int32)).toNatClampNeg) := inb_of S298 ⟨by decide, by decide⟩
  obtain ⟨T298, h298, X298, e298, W298, st298⟩ := stR X293 hx hZ rfl Ar298 (j := (0 : Int32)) hin298 rfl (Sto.ofV Ar298 q298 Pq293_0 (Ins.of_exa Q295 (own_w hw 128 rfl))) (g := (mkF m 14 #[.val (.ref li), .val (.ref rr), .val (.ref br_293), .val (.int (0 : Int32))] [(.ref rr), (.int (0 : Int32)), (.ref br_293)])) rfl rfl (hb hby d17_14)
  have Q299 : Exa Z h298 li "java/util/ArrayList" := Q294.wr W298
  have Q300 : Exa Z h298 rr "java/lang/String" := Q295.wr W298
  have Q301 : Sta Z h298 "java/util/ArrayList" "DEFAULTCAPACITY_EMPTY_ELEMENTDATA" "[Ljava/lang/Object;" (.ref de) := Q296.wr W298
  have Q302 : Arv Z h298 de kd (.object "java/lang/Object") (0 : Int32) [] .null := Q297.other W298 ne_de_br_293
  have Q303 : Fld Z h298 li "java/util/ArrayList" "size" "I" (.int (0 : Int32)) := U293_0.other W298 (Or.inl ne_li_br_293)
  have Q304 : Fld Z h298 li "java/util/ArrayList" "elementData" "[Ljava/lang/Object;" (.ref br_293) := U293_1.other W298 (Or.inl ne_li_br_293)
  have Q305 : Fld Z h298 li "java/util/AbstractList" "modCount" "I" (.int mc) := U293_2.other W298 (Or.inl ne_li_br_293)
  have U298 : Arv Z h298 br_293 kb_293 (.object "java/lang/Object") (10 : Int32) [(.ref rr), .null, .null, .null, .null, .null, .null, .null, .null, .null] .null := Arv.set Ar298 q298 S298 M298 Ha298 G298 rfl W298 0 rfl (Nat.le_of_ble_eq_true rfl)
  have Z298 : n0 ≤ h298.size := Nat.le_trans Z293 (Keep.of_wr W298).1
  have N298 := Fr.snoc X298 N293 low_br_293
  have K298 := K293.wr W298 (Or.inr sz_br_293)
  refine own_go st298 ?_
  refine own_go (B := T298.setTop (mkF m 19 #[.val (.ref li), .val (.ref rr), .val (.ref br_293), .val (.int (0 : Int32))] [(.int (1 : Int32)), (.ref li)])) (fun t k => ?_) ?_
  · refine XS.aloadN X298.here hx rfl (hb hby d17_15) rfl rfl ?_
    refine XS.iloadN X298.here hx rfl (hb hby d17_16) rfl ?_
    refine XS.iconst X298.here hx rfl (hb hby d17_17) ?_
    refine XS.iadd X298.here hx rfl (hb hby d17_18) rfl ?_
    exact k
  obtain ⟨T306, h306, X306, e306, W306, st306⟩ := putF X298 hx hZ hown (host := "") (Or.inl (own_w hw 94 rfl)) Via.refl e298 Q303 Q299 (Or.inl (own_w hw 95 rfl)) (own_w hw 38 rfl) (ty := .int) (by decide) rfl rfl (g := (mkF m 19 #[.val (.ref li), .val (.ref rr), .val (.ref br_293), .val (.int (0 : Int32))] [(.int (1 : Int32)), (.ref li)])) rfl rfl (hb hby d17_19)
  have Q307 : Exa Z h306 li "java/util/ArrayList" := Q299.wr W306
  have Q308 : Exa Z h306 rr "java/lang/String" := Q300.wr W306
  have Q309 : Sta Z h306 "java/util/ArrayList" "DEFAULTCAPACITY_EMPTY_ELEMENTDATA" "[Ljava/lang/Object;" (.ref de) := Q301.wr W306
  have Q310 : Arv Z h306 de kd (.object "java/lang/Object") (0 : Int32) [] .null := Q302.other W306 ne_de_li
  have Q311 : Fld Z h306 li "java/util/ArrayList" "elementData" "[Ljava/lang/Object;" (.ref br_293) := Q304.other W306 (Or.inr (slot_ne (Or.inl (own_w hw 60 rfl)) (Or.inl (own_w hw 95 rfl)) (by decide) (t := (.array (.object "java/lang/Object"))) (t' := .int) (by decide) (by decide)))
  have Q312 : Fld Z h306 li "java/util/AbstractList" "modCount" "I" (.int mc) := Q305.other W306 (Or.inr (slot_ne (Or.inl (own_w hw 57 rfl)) (Or.inl (own_w hw 95 rfl)) (by decide) (t := .int) (t' := .int) (by decide) (by decide)))
  have Q313 : Arv Z h306 br_293 kb_293 (.object "java/lang/Object") (10 : Int32) [(.ref rr), .null, .null, .null, .null, .null, .null, .null, .null, .null] .null := U298.other W306 (Ne.symm ne_li_br_293)
  have U306 : Fld Z h306 li "java/util/ArrayList" "size" "I" (.int (1 : Int32)) := Q303.same W306
  have Z306 : n0 ≤ h306.size := Nat.le_trans Z298 (Keep.of_wr W306).1
  have N306 := Fr.snoc X306 N298 g_li
  have K306 := K298.wr W306 (Or.inl (List.mem_of_getElem? (i := 0) rfl))
  refine own_go st306 ?_
  obtain ⟨fs, hr, hrun, hended, hW, hsame⟩ := X306.leave (v := none) (fun _ => rfl)
  refine ⟨_, _, ?_, hrun, hended, _, _, rfl, ?_, ⟨_, rfl⟩, hW, hsame.mono (by decide) (by decide)⟩
  · show Steps p.tables e below (T306.setTop (mkF m 22 #[.val (.ref li), .val (.ref rr), .val (.ref br_293), .val (.int (0 : Int32))] [])) _
    exact X306.returnOut hx Bd.returns (hb hby d17_22) hr
  · show Qad3_0 Z li rr de kd mc h0 n0 _ T306.heap _
    rw [e306]
    exact ⟨br_293, kb_293, rfl, N306, K306, sz_br_293, ne_li_br_293, U306, Q311, Q312, Q313, Pq293_0⟩
def Qad1_0 (Z : State) (li : Addr) (rr : Addr) (de : Addr) (kd : ClassId) (mc : Int32) (h0 : Heap) (n0 : Nat) (v : Option Value) (h : Heap) (L : List Loc) : Prop := ∃ br : Addr, ∃ kb : ClassId, v = some (.int (1 : Int32)) ∧ Fr n0 L ∧ Keep h0 h [li] ∧ h0.size ≤ br ∧ li ≠ br ∧ Fld Z h li "java/util/ArrayList" "size" "I" (.int (1 : Int32)) ∧ Fld Z h li "java/util/ArrayList" "elementData" "[Ljava/lang/Object;" (.ref br) ∧ Fld Z h li "java/util/AbstractList" "modCount" "I" (.int (mc + (1 : Int32))) ∧ Arv Z h br kb (.object "java/lang/Object") (10 : Int32) [(.ref rr), .null, .null, .null, .null, .null, .null, .null, .null, .null] .null ∧ (Ovr Z kb "java/lang/Object")
theorem efad1_0 (m : MethodId) (x0 : Addr) (x1 : Addr) : entryFrame m #[(.ref x0), (.ref x1)] 2 = mkF m 0 #[.val (.ref x0), .val (.ref x1)] [] := by first | (simp [entryFrame, mkF, argsToLocals, Value.category]; done) | rfl
set_option maxRecDepth 65536 in
set_option maxHeartbeats 40000000 in
theorem ad1_0 (l : Launch) (Z : State) (a0 : Array Value) (hw : ∀ d ∈ tables_1, d.before a0 Z = true) (ws : List Jvm.Cond) (li : Addr) (rr : Addr) (de : Addr) (kd : ClassId) (mc : Int32) (h0 : Heap) (n0 : Nat) (Z0 : n0 ≤ h0.size) (P0 : Exa Z h0 li "java/util/ArrayList") (P1 : Exa Z h0 rr "java/lang/String") (P2 : Fld Z h0 li "java/util/ArrayList" "size" "I" (.int (0 : Int32))) (P3 : Fld Z h0 li "java/util/ArrayList" "elementData" "[Ljava/lang/Object;" (.ref de)) (P4 : Fld Z h0 li "java/util/AbstractList" "modCount" "I" (.int mc)) (P5 : Sta Z h0 "java/util/ArrayList" "DEFAULTCAPACITY_EMPTY_ELEMENTDATA" "[Ljava/lang/Object;" (.ref de)) (P6 : Arv Z h0 de kd (.object "java/lang/Object") (0 : Int32) [] .null) (g_li : n0 ≤ li) (ne_de_li : de ≠ li) :
    MetFree l (⟨"java/util/ArrayList", "add", "(Ljava/lang/Object;)Z"⟩ : MethodName) (head1 (Jvm.Cond.code (⟨"java/util/ArrayList", "add", "(Ljava/lang/Object;)Z"⟩ : MethodName) jdk_38_method_25_code 2 (some .boolean) :: ws) ({ frames := 4, cells := 1, slots := 10, locals := 56 } : Room)) (fun a U => a = #[(.ref li), (.ref rr)] ∧ Z.Warmed39 U.vm ∧ U.heap = h0) (fun _ _ _ _ _ => True) (fun _ U o U' => ∃ v L, o = .returned v ∧ Qad1_0 Z li rr de kd mc h0 n0 v U'.heap L ∧ FrameEnd U o U' L ({ frames := 4, cells := 1, slots := 10, locals := 56 } : Room).cells ({ frames := 4, cells := 1, slots := 10, locals := 56 } : Room).slots) := by
  refine MetFree.of_bodySF (plainFor_of_name pn_5) hisR ?_
  intro p e s m args below meth c s₁ Bd hml0 hP hK
  obtain ⟨rfl, hZ, hh⟩ := hP
  have hx := Bd.exec
  have hby := Bd.bytes
  have hml : c.maxLocals = 2 := hml0
  have hown : s.vm.findClass "java/util/ArrayList" = some m.cls := findClass_of_methodNamed Bd.named
  have hnm := (name_of_methodNamed Bd.named Bd.method).1
  have X0 : Stand p l e ({ frames := 4, cells := 1, slots := 10, locals := 56 } : Room) s m #[(.ref li), (.ref rr)] below meth c s₁ [] 0 0 := Stand.of_body Bd
  have e0 : s₁.heap = h0 := by rw [← hh, Bd.state]; rfl
  have N0 := Fr.nil n0
  have K0 : Keep h0 h0 [li] := Keep.refl h0 _
  refine own_go (B := s₁.setTop (mkF m 0 #[.val (.ref li), .val (.ref rr)] [])) (fun t k => castTop (efad1_0 m li rr) k) ?_
  refine own_go (B := s₁.setTop (mkF m 2 #[.val (.ref li), .val (.ref rr)] [(.ref li), (.ref li)])) (fun t k => ?_) ?_
  · refine XS.aloadN X0.here hx rfl (hb hby d16_0) rfl rfl ?_
    refine XS.dup X0.here hx rfl (hb hby d16_1) rfl rfl ?_
    exact k
  obtain ⟨T314, X314, e314, st314⟩ := getF X0 hx hZ hown (host := "") (Or.inl (own_w hw 105 rfl)) (Via.of (own_w hw 106 rfl)) e0 P4 (g := (mkF m 2 #[.val (.ref li), .val (.ref rr)] [(.ref li), (.ref li)])) rfl rfl (hb hby d16_2)
  refine own_go st314 ?_
  refine own_go (B := T314.setTop (mkF m 7 #[.val (.ref li), .val (.ref rr)] [(.int (mc + (1 : Int32))), (.ref li)])) (fun t k => ?_) ?_
  · refine XS.iconst X314.here hx rfl (hb hby d16_5) ?_
    refine XS.iadd X314.here hx rfl (hb hby d16_6) rfl ?_
    exact k
  obtain ⟨T315, h315, X315, e315, W315, st315⟩ := putF X314 hx hZ hown (host := "") (Or.inl (own_w hw 105 rfl)) (Via.of (own_w hw 106 rfl)) e314 P4 P0 (Or.inl (own_w hw 57 rfl)) (own_w hw 38 rfl) (ty := .int) (by decide) rfl rfl (g := (mkF m 7 #[.val (.ref li), .val (.ref rr)] [(.int (mc + (1 : Int32))), (.ref li)])) rfl rfl (hb hby d16_7)
  have Q316 : Exa Z h315 li "java/util/ArrayList" := P0.wr W315
  have Q317 : Exa Z h315 rr "java/lang/String" := P1.wr W315
  have Q318 : Fld Z h315 li "java/util/ArrayList" "size" "I" (.int (0 : Int32)) := P2.other W315 (Or.inr (slot_ne (Or.inl (own_w hw 95 rfl)) (Or.inl (own_w hw 57 rfl)) (by decide) (t := .int) (t' := .int) (by decide) (by decide)))
  have Q319 : Fld Z h315 li "java/util/ArrayList" "elementData" "[Ljava/lang/Object;" (.ref de) := P3.other W315 (Or.inr (slot_ne (Or.inl (own_w hw 60 rfl)) (Or.inl (own_w hw 57 rfl)) (by decide) (t := (.array (.object "java/lang/Object"))) (t' := .int) (by decide) (by decide)))
  have Q320 : Sta Z h315 "java/util/ArrayList" "DEFAULTCAPACITY_EMPTY_ELEMENTDATA" "[Ljava/lang/Object;" (.ref de) := P5.wr W315
  have Q321 : Arv Z h315 de kd (.object "java/lang/Object") (0 : Int32) [] .null := P6.other W315 ne_de_li
  have U315 : Fld Z h315 li "java/util/AbstractList" "modCount" "I" (.int (mc + (1 : Int32))) := P4.same W315
  have Z315 : n0 ≤ h315.size := Nat.le_trans Z0 (Keep.of_wr W315).1
  have N315 := Fr.snoc X315 N0 g_li
  have K315 := K0.wr W315 (Or.inl (List.mem_of_getElem? (i := 0) rfl))
  refine own_go st315 ?_
  refine own_go (B := T315.setTop (mkF m 13 #[.val (.ref li), .val (.ref rr)] [(.ref li), (.ref rr), (.ref li)])) (fun t k => ?_) ?_
  · refine XS.aloadN X315.here hx rfl (hb hby d16_10) rfl rfl ?_
    refine XS.aloadN X315.here hx rfl (hb hby d16_11) rfl rfl ?_
    refine XS.aloadN X315.here hx rfl (hb hby d16_12) rfl rfl ?_
    exact k
  obtain ⟨T322, X322, e322, st322⟩ := getF X315 hx hZ hown (host := "") (Or.inl (own_w hw 59 rfl)) Via.refl e315 Q319 (g := (mkF m 13 #[.val (.ref li), .val (.ref rr)] [(.ref li), (.ref rr), (.ref li)])) rfl rfl (hb hby d16_13)
  refine own_go st322 ?_
  refine own_go (B := T322.setTop (mkF m 17 #[.val (.ref li), .val (.ref rr)] [(.ref li), (.ref de), (.ref rr), (.ref li)])) (fun t k => ?_) ?_
  · refine XS.aloadN X322.here hx rfl (hb hby d16_16) rfl rfl ?_
    exact k
  obtain ⟨T323, X323, e323, st323⟩ := getF X322 hx hZ hown (host := "") (Or.inl (own_w hw 94 rfl)) Via.refl e322 Q318 (g := (mkF m 17 #[.val (.ref li), .val (.ref rr)] [(.ref li), (.ref de), (.ref rr), (.ref li)])) rfl rfl (hb hby d16_17)
  refine own_go st323 ?_
  obtain ⟨cq324, q324, q324'⟩ := Q316.cell
  obtain ⟨_, _, ⟨T324, L324, k324, n324⟩, -, X324, ⟨Lc324, hQ324, l324, y324, z324⟩, st324⟩ := X323.privateBack hx (y := (⟨"java/util/ArrayList", "add", "(Ljava/lang/Object;[Ljava/lang/Object;I)V"⟩ : MethodName)) hown (mvT hZ (own_w hw 107 rfl)) (mvT hZ (own_w hw 108 rfl)) (mvT hZ (own_w hw 110 rfl)) (Cond.privateMethod_at (mvP hZ (own_w hw 109 rfl) (args := #[]))) (mvT hZ (own_w hw 111 rfl)) (by decide) (backOf (W := 0) (ad3_0 l Z a0 hw [] li rr de kd (mc + (1 : Int32)) h315 n0 Z315 Q316 Q317 Q318 Q319 U315 Q320 Q321 g_li ne_de_li) hZ (own_w hw 111 rfl) (own_w hw 39 rfl) (by decide) (by decide)) (g := (mkF m 20 #[.val (.ref li), .val (.ref rr)] [(.int (0 : Int32)), (.ref de), (.ref rr), (.ref li)])) rfl (by rw [hml]; rfl) (Steps.refl _) (a := li) (by rw [e323]; exact q324) q324' (argsL := [(.ref rr), (.ref de), (.int (0 : Int32))]) (rest := []) (lenOf pd_9 rfl) rfl (by show 2 * 0 + _ ≤ _; exact Nat.le_of_eq rfl) (hb hby d16_20) (fun _ _ => ⟨rfl, e323, (by decide : 0 + 1 ≤ _), (by decide : 0 + 10 ≤ _)⟩)
  dsimp only [Pt.U, Pt.locs, Pt.cells, Pt.slots] at X324 l324 y324 z324 st324 hQ324
  subst l324 y324 z324
  obtain ⟨br_324, kb_324, rfl, Nq324, Kq324, sq_br_324, pq324_0, U324_0, U324_1, U324_2, U324_3, Pq324_0⟩ := hQ324
  have ne_de_br_324 : de ≠ br_324 := Nat.ne_of_lt (Nat.lt_of_lt_of_le Q321.lt sq_br_324)
  have ne_li_br_324 : li ≠ br_324 := Nat.ne_of_lt (Nat.lt_of_lt_of_le Q316.lt sq_br_324)
  have ne_rr_br_324 : rr ≠ br_324 := Nat.ne_of_lt (Nat.lt_of_lt_of_le Q317.lt sq_br_324)
  have low_br_324 : n0 ≤ br_324 := Nat.le_trans Z315 sq_br_324
  have sz_br_324 : h0.size ≤ br_324 := Nat.le_trans K315.1 sq_br_324
  have Q325 : Exa Z T324.heap li "java/util/ArrayList" := Q316.keep Kq324
  have Q326 : Exa Z T324.heap rr "java/lang/String" := Q317.keep Kq324
  have Q327 : Sta Z T324.heap "java/util/ArrayList" "DEFAULTCAPACITY_EMPTY_ELEMENTDATA" "[Ljava/lang/Object;" (.ref de) := own_staK Q320 Kq324 (nsS (own_nsE Q316) ns0)
  have Q328 : Arv Z T324.heap de kd (.object "java/lang/Object") (0 : Int32) [] .null := Q321.keep Kq324 (ninS ne_de_li nin0)
  have Z324 : n0 ≤ T324.heap.size := Nat.le_trans Z315 Kq324.1
  have K324 : Keep h0 T324.heap [li] := K315.trans Kq324 (allS (Or.inl (List.mem_of_getElem? (i := 0) rfl)) all0)
  have N324 := Fr.app N315 Nq324
  refine own_go (B := T324.setTop (mkF m 23 #[.val (.ref li), .val (.ref rr)] [])) (fun t k => st324.trans k) ?_
  refine own_go (B := T324.setTop (mkF m 24 #[.val (.ref li), .val (.ref rr)] [(.int (1 : Int32))])) (fun t k => ?_) ?_
  · refine XS.iconst X324.here hx rfl (hb hby d16_23) ?_
    exact k
  obtain ⟨fs, hr, hrun, hended, hW, hsame⟩ := X324.leave (v := some (.int (1 : Int32))) (fun h => by rw [Bd.returns] at h; cases h)
  refine ⟨_, _, ?_, hrun, hended, _, _, rfl, ?_, ⟨_, rfl⟩, hW, hsame.mono (by decide) (by decide)⟩
  · show Steps p.tables e below (T324.setTop (mkF m 24 #[.val (.ref li), .val (.ref rr)] [(.int (1 : Int32))])) _
    exact retN X324 hx (t := .boolean) Bd.returns (by simp) (hb hby d16_24) hr
  · show Qad1_0 Z li rr de kd mc h0 n0 _ T324.heap _
    skip
    exact ⟨br_324, kb_324, rfl, N324, K324, sz_br_324, ne_li_br_324, U324_0, U324_1, U324_2, U324_3, Pq324_0⟩
def Qad3_1 (Z : State) (li : Addr) (rr : Addr) (br : Addr) (kb : ClassId) (mc : Int32) (r0 : Addr) (h0 : Heap) (n0 : Nat) (v : Option Value) (h : Heap) (L : List Loc) : Prop := v = none ∧ Fr n0 L ∧ Keep h0 h [li, br] ∧ Fld Z h li "java/util/ArrayList" "size" "I" (.int (2 : Int32)) ∧ Fld Z h li "java/util/ArrayList" "elementData" "[Ljava/lang/Object;" (.ref br) ∧ Fld Z h li "java/util/AbstractList" "modCount" "I" (.int mc) ∧ Arv Z h br kb (.object "java/lang/Object") (10 : Int32) [(.ref r0), (.ref rr), .null, .null, .null, .null, .null, .null, .null, .null] .null
theorem efad3_1 (m : MethodId) (x0 : Addr) (x1 : Addr) (x2 : Addr) : entryFrame m #[(.ref x0), (.ref x1), (.ref x2), (.int (1 : Int32))] 4 = mkF m 0 #[.val (.ref x0), .val (.ref x1), .val (.ref x2), .val (.int (1 : Int32))] [] := by first | (simp [entryFrame, mkF, argsToLocals, Value.category]; done) | rfl
set_option maxRecDepth 65536 in
set_option maxHeartbeats 40000000 in
theorem ad3_1 (l : Launch) (Z : State) (a0 : Array Value) (hw : ∀ d ∈ tables_1, d.before a0 Z = true) (ws : List Jvm.Cond) (li : Addr) (rr : Addr) (br : Addr) (kb : ClassId) (mc : Int32) (r0 : Addr) (h0 : Heap) (n0 : Nat) (Z0 : n0 ≤ h0.size) (P0 : Exa Z h0 li "java/util/ArrayList") (P1 : Exa Z h0 rr "java/lang/String") (P2 : Fld Z h0 li "java/util/ArrayList" "size" "I" (.int (1 : Int32))) (P3 : Fld Z h0 li "java/util/ArrayList" "elementData" "[Ljava/lang/Object;" (.ref br)) (P4 : Fld Z h0 li "java/util/AbstractList" "modCount" "I" (.int mc)) (P5 : Arv Z h0 br kb (.object "java/lang/Object") (10 : Int32) [(.ref r0), .null, .null, .null, .null, .null, .null, .null, .null, .null] .null) (g_li : n0 ≤ li) (g_br : n0 ≤ br) (ne_li_br : li ≠ br) (hov : Ovr Z kb "java/lang/Object") :
    MetFree l (⟨"java/util/ArrayList", "add", "(Ljava/lang/Object;[Ljava/lang/Object;I)V"⟩ : MethodName) (head1 (Jvm.Cond.code (⟨"java/util/ArrayList", "add", "(Ljava/lang/Object;[Ljava/lang/Object;I)V"⟩ : MethodName) jdk_38_method_24_code 4 none :: ws) ({ frames := 0, cells := 0, slots := 0, locals := 0 } : Room)) (fun a U => a = #[(.ref li), (.ref rr), (.ref br), (.int (1 : Int32))] ∧ Z.Warmed39 U.vm ∧ U.heap = h0) (fun _ _ _ _ _ => True) (fun _ U o U' => ∃ v L, o = .returned v ∧ Qad3_1 Z li rr br kb mc r0 h0 n0 v U'.heap L ∧ FrameEnd U o U' L ({ frames := 0, cells := 0, slots := 0, locals := 0 } : Room).cells ({ frames := 0, cells := 0, slots := 0, locals := 0 } : Room).slots) := by
  refine MetFree.of_bodySF (plainFor_of_name pn_5) hisR ?_
  intro p e s m args below meth c s₁ Bd hml0 hP hK
  obtain ⟨rfl, hZ, hh⟩ := hP
  have hx := Bd.exec
  have hby := Bd.bytes
  have hml : c.maxLocals = 4 := hml0
  have hown : s.vm.findClass "java/util/ArrayList" = some m.cls := findClass_of_methodNamed Bd.named
  have hnm := (name_of_methodNamed Bd.named Bd.method).1
  have X0 : Stand p l e ({ frames := 0, cells := 0, slots := 0, locals := 0 } : Room) s m #[(.ref li), (.ref rr), (.ref br), (.int (1 : Int32))] below meth c s₁ [] 0 0 := Stand.of_body Bd
  have e0 : s₁.heap = h0 := by rw [← hh, Bd.state]; rfl
  have N0 := Fr.nil n0
  have K0 : Keep h0 h0 [li, br] := Keep.refl h0 _
  refine own_go (B := s₁.setTop (mkF m 0 #[.val (.ref li), .val (.ref rr), .val (.ref br), .val (.int (1 : Int32))] [])) (fun t k => castTop (efad3_1 m li rr br) k) ?_
  refine own_go (B := s₁.setTop (mkF m 2 #[.val (.ref li), .val (.ref rr), .val (.ref br), .val (.int (1 : Int32))] [(.ref br), (.int (1 : Int32))])) (fun t k => ?_) ?_
  · refine XS.iloadN X0.here hx rfl (hb hby d17_0) rfl ?_
    refine XS.aloadN X0.here hx rfl (hb hby d17_1) rfl rfl ?_
    exact k
  obtain ⟨cl329, Ar329, q329, S329, M329, Ha329, G329⟩ := id P5
  refine own_go (B := s₁.setTop (mkF m 3 #[.val (.ref li), .val (.ref rr), .val (.ref br), .val (.int (1 : Int32))] [(.int (10 : Int32)), (.int (1 : Int32))])) (fun t k => ?_) ?_
  · refine X0.arraylength hx (by rw [e0]; exact Ar329.1) (State.isArrayOf_alike hZ.alike Ar329.2.1) (g := (mkF m 2 #[.val (.ref li), .val (.ref rr), .val (.ref br), .val (.int (1 : Int32))] [(.ref br), (.int (1 : Int32))])) rfl rfl (hb hby d17_2) _ ?_
    rw [len_of S329 M329]
    exact k
  refine own_go (B := s₁.setTop (mkF m 14 #[.val (.ref li), .val (.ref rr), .val (.ref br), .val (.int (1 : Int32))] [(.ref rr), (.int (1 : Int32)), (.ref br)])) (fun t k => ?_) ?_
  · refine XS.icmpYes X0.here hx rfl (pc0 := 3) (pc' := 11) rfl (hb hby d17_3) rfl (feq (by decide : ¬ ((1 : Int32) = (10 : Int32)))).2 (by decide) (by decide) ?_
    refine XS.aloadN X0.here hx rfl (hb hby d17_11) rfl rfl ?_
    refine XS.iloadN X0.here hx rfl (hb hby d17_12) rfl ?_
    refine XS.aloadN X0.here hx rfl (hb hby d17_13) rfl rfl ?_
    exact k
  obtain ⟨cl331, Ar331, q331, S331, M331, Ha331, G331⟩ := id P5
  have hin331 : ¬ ((1 : Int32) < 0 ∨ cl331.slots.size ≤ ((1 : Int32)).toNatClampNeg) := inb_of S331 ⟨by decide, by decide⟩
  obtain ⟨T331, h331, X331, e331, W331, st331⟩ := stR X0 hx hZ e0 Ar331 (j := (1 : Int32)) hin331 rfl (Sto.ofV Ar331 q331 hov (Ins.of_exa P1 (own_w hw 128 rfl))) (g := (mkF m 14 #[.val (.ref li), .val (.ref rr), .val (.ref br), .val (.int (1 : Int32))] [(.ref rr), (.int (1 : Int32)), (.ref br)])) rfl rfl (hb hby d17_14)
  have Q332 : Exa Z h331 li "java/util/ArrayList" := P0.wr W331
  have Q333 : Exa Z h331 rr "java/lang/String" := P1.wr W331
  have Q334 : Fld Z h331 li "java/util/ArrayList" "size" "I" (.int (1 : Int32)) := P2.other W331 (Or.inl ne_li_br)
  have Q335 : Fld Z h331 li "java/util/ArrayList" "elementData" "[Ljava/lang/Object;" (.ref br) := P3.other W331 (Or.inl ne_li_br)
  have Q336 : Fld Z h331 li "java/util/AbstractList" "modCount" "I" (.int mc) := P4.other W331 (Or.inl ne_li_br)
  have U331 : Arv Z h331 br kb (.object "java/lang/Object") (10 : Int32) [(.ref r0), (.ref rr), .null, .null, .null, .null, .null, .null, .null, .null] .null := Arv.set Ar331 q331 S331 M331 Ha331 G331 rfl W331 1 rfl (Nat.le_of_ble_eq_true rfl)
  have Z331 : n0 ≤ h331.size := Nat.le_trans Z0 (Keep.of_wr W331).1
  have N331 := Fr.snoc X331 N0 g_br
  have K331 := K0.wr W331 (Or.inl (List.mem_of_getElem? (i := 1) rfl))
  refine own_go st331 ?_
  refine own_go (B := T331.setTop (mkF m 19 #[.val (.ref li), .val (.ref rr), .val (.ref br), .val (.int (1 : Int32))] [(.int (2 : Int32)), (.ref li)])) (fun t k => ?_) ?_
  · refine XS.aloadN X331.here hx rfl (hb hby d17_15) rfl rfl ?_
    refine XS.iloadN X331.here hx rfl (hb hby d17_16) rfl ?_
    refine XS.iconst X331.here hx rfl (hb hby d17_17) ?_
    refine XS.iadd X331.here hx rfl (hb hby d17_18) rfl ?_
    exact k
  obtain ⟨T337, h337, X337, e337, W337, st337⟩ := putF X331 hx hZ hown (host := "") (Or.inl (own_w hw 94 rfl)) Via.refl e331 Q334 Q332 (Or.inl (own_w hw 95 rfl)) (own_w hw 38 rfl) (ty := .int) (by decide) rfl rfl (g := (mkF m 19 #[.val (.ref li), .val (.ref rr), .val (.ref br), .val (.int (1 : Int32))] [(.int (2 : Int32)), (.ref li)])) rfl rfl (hb hby d17_19)
  have Q338 : Exa Z h337 li "java/util/ArrayList" := Q332.wr W337
  have Q339 : Exa Z h337 rr "java/lang/String" := Q333.wr W337
  have Q340 : Fld Z h337 li "java/util/ArrayList" "elementData" "[Ljava/lang/Object;" (.ref br) := Q335.other W337 (Or.inr (slot_ne (Or.inl (own_w hw 60 rfl)) (Or.inl (own_w hw 95 rfl)) (by decide) (t := (.array (.object "java/lang/Object"))) (t' := .int) (by decide) (by decide)))
  have Q341 : Fld Z h337 li "java/util/AbstractList" "modCount" "I" (.int mc) := Q336.other W337 (Or.inr (slot_ne (Or.inl (own_w hw 57 rfl)) (Or.inl (own_w hw 95 rfl)) (by decide) (t := .int) (t' := .int) (by decide) (by decide)))
  have Q342 : Arv Z h337 br kb (.object "java/lang/Object") (10 : Int32) [(.ref r0), (.ref rr), .null, .null, .null, .null, .null, .null, .null, .null] .null := U331.other W337 (Ne.symm ne_li_br)
  have U337 : Fld Z h337 li "java/util/ArrayList" "size" "I" (.int (2 : Int32)) := Q334.same W337
  have Z337 : n0 ≤ h337.size := Nat.le_trans Z331 (Keep.of_wr W337).1
  have N337 := Fr.snoc X337 N331 g_li
  have K337 := K331.wr W337 (Or.inl (List.mem_of_getElem? (i := 0) rfl))
  refine own_go st337 ?_
  obtain ⟨fs, hr, hrun, hended, hW, hsame⟩ := X337.leave (v := none) (fun _ => rfl)
  refine ⟨_, _, ?_, hrun, hended, _, _, rfl, ?_, ⟨_, rfl⟩, hW, hsame.mono (by decide) (by decide)⟩
  · show Steps p.tables e below (T337.setTop (mkF m 22 #[.val (.ref li), .val (.ref rr), .val (.ref br), .val (.int (1 : Int32))] [])) _
    exact X337.returnOut hx Bd.returns (hb hby d17_22) hr
  · show Qad3_1 Z li rr br kb mc r0 h0 n0 _ T337.heap _
    rw [e337]
    exact ⟨rfl, N337, K337, U337, Q340, Q341, Q342⟩
def Qad1_1 (Z : State) (li : Addr) (rr : Addr) (br : Addr) (kb : ClassId) (mc : Int32) (r0 : Addr) (h0 : Heap) (n0 : Nat) (v : Option Value) (h : Heap) (L : List Loc) : Prop := v = some (.int (1 : Int32)) ∧ Fr n0 L ∧ Keep h0 h [li, br] ∧ Fld Z h li "java/util/ArrayList" "size" "I" (.int (2 : Int32)) ∧ Fld Z h li "java/util/ArrayList" "elementData" "[Ljava/lang/Object;" (.ref br) ∧ Fld Z h li "java/util/AbstractList" "modCount" "I" (.int (mc + (1 : Int32))) ∧ Arv Z h br kb (.object "java/lang/Object") (10 : Int32) [(.ref r0), (.ref rr), .null, .null, .null, .null, .null, .null, .null, .null] .null
theorem efad1_1 (m : MethodId) (x0 : Addr) (x1 : Addr) : entryFrame m #[(.ref x0), (.ref x1)] 2 = mkF m 0 #[.val (.ref x0), .val (.ref x1)] [] := by first | (simp [entryFrame, mkF, argsToLocals, Value.category]; done) | rfl
set_option maxRecDepth 65536 in
set_option maxHeartbeats 40000000 in
theorem ad1_1 (l : Launch) (Z : State) (a0 : Array Value) (hw : ∀ d ∈ tables_1, d.before a0 Z = true) (ws : List Jvm.Cond) (li : Addr) (rr : Addr) (br : Addr) (kb : ClassId) (mc : Int32) (r0 : Addr) (h0 : Heap) (n0 : Nat) (Z0 : n0 ≤ h0.size) (P0 : Exa Z h0 li "java/util/ArrayList") (P1 : Exa Z h0 rr "java/lang/String") (P2 : Fld Z h0 li "java/util/ArrayList" "size" "I" (.int (1 : Int32))) (P3 : Fld Z h0 li "java/util/ArrayList" "elementData" "[Ljava/lang/Object;" (.ref br)) (P4 : Fld Z h0 li "java/util/AbstractList" "modCount" "I" (.int mc)) (P5 : Arv Z h0 br kb (.object "java/lang/Object") (10 : Int32) [(.ref r0), .null, .null, .null, .null, .null, .null, .null, .null, .null] .null) (g_li : n0 ≤ li) (g_br : n0 ≤ br) (ne_li_br : li ≠ br) (hov : Ovr Z kb "java/lang/Object") :
    MetFree l (⟨"java/util/ArrayList", "add", "(Ljava/lang/Object;)Z"⟩ : MethodName) (head1 (Jvm.Cond.code (⟨"java/util/ArrayList", "add", "(Ljava/lang/Object;)Z"⟩ : MethodName) jdk_38_method_25_code 2 (some .boolean) :: ws) ({ frames := 1, cells := 0, slots := 0, locals := 15 } : Room)) (fun a U => a = #[(.ref li), (.ref rr)] ∧ Z.Warmed39 U.vm ∧ U.heap = h0) (fun _ _ _ _ _ => True) (fun _ U o U' => ∃ v L, o = .returned v ∧ Qad1_1 Z li rr br kb mc r0 h0 n0 v U'.heap L ∧ FrameEnd U o U' L ({ frames := 1, cells := 0, slots := 0, locals := 15 } : Room).cells ({ frames := 1, cells := 0, slots := 0, locals := 15 } : Room).slots) := by
  refine MetFree.of_bodySF (plainFor_of_name pn_5) hisR ?_
  intro p e s m args below meth c s₁ Bd hml0 hP hK
  obtain ⟨rfl, hZ, hh⟩ := hP
  have hx := Bd.exec
  have hby := Bd.bytes
  have hml : c.maxLocals = 2 := hml0
  have hown : s.vm.findClass "java/util/ArrayList" = some m.cls := findClass_of_methodNamed Bd.named
  have hnm := (name_of_methodNamed Bd.named Bd.method).1
  have X0 : Stand p l e ({ frames := 1, cells := 0, slots := 0, locals := 15 } : Room) s m #[(.ref li), (.ref rr)] below meth c s₁ [] 0 0 := Stand.of_body Bd
  have e0 : s₁.heap = h0 := by rw [← hh, Bd.state]; rfl
  have N0 := Fr.nil n0
  have K0 : Keep h0 h0 [li, br] := Keep.refl h0 _
  refine own_go (B := s₁.setTop (mkF m 0 #[.val (.ref li), .val (.ref rr)] [])) (fun t k => castTop (efad1_1 m li rr) k) ?_
  refine own_go (B := s₁.setTop (mkF m 2 #[.val (.ref li), .val (.ref rr)] [(.ref li), (.ref li)])) (fun t k => ?_) ?_
  · refine XS.aloadN X0.here hx rfl (hb hby d16_0) rfl rfl ?_
    refine XS.dup X0.here hx rfl (hb hby d16_1) rfl rfl ?_
    exact k
  obtain ⟨T343, X343, e343, st343⟩ := getF X0 hx hZ hown (host := "") (Or.inl (own_w hw 105 rfl)) (Via.of (own_w hw 106 rfl)) e0 P4 (g := (mkF m 2 #[.val (.ref li), .val (.ref rr)] [(.ref li), (.ref li)])) rfl rfl (hb hby d16_2)
  refine own_go st343 ?_
  refine own_go (B := T343.setTop (mkF m 7 #[.val (.ref li), .val (.ref rr)] [(.int (mc + (1 : Int32))), (.ref li)])) (fun t k => ?_) ?_
  · refine XS.iconst X343.here hx rfl (hb hby d16_5) ?_
    refine XS.iadd X343.here hx rfl (hb hby d16_6) rfl ?_
    exact k
  obtain ⟨T344, h344, X344, e344, W344, st344⟩ := putF X343 hx hZ hown (host := "") (Or.inl (own_w hw 105 rfl)) (Via.of (own_w hw 106 rfl)) e343 P4 P0 (Or.inl (own_w hw 57 rfl)) (own_w hw 38 rfl) (ty := .int) (by decide) rfl rfl (g := (mkF m 7 #[.val (.ref li), .val (.ref rr)] [(.int (mc + (1 : Int32))), (.ref li)])) rfl rfl (hb hby d16_7)
  have Q345 : Exa Z h344 li "java/util/ArrayList" := P0.wr W344
  have Q346 : Exa Z h344 rr "java/lang/String" := P1.wr W344
  have Q347 : Fld Z h344 li "java/util/ArrayList" "size" "I" (.int (1 : Int32)) := P2.other W344 (Or.inr (slot_ne (Or.inl (own_w hw 95 rfl)) (Or.inl (own_w hw 57 rfl)) (by decide) (t := .int) (t' := .int) (by decide) (by decide)))
  have Q348 : Fld Z h344 li "java/util/ArrayList" "elementData" "[Ljava/lang/Object;" (.ref br) := P3.other W344 (Or.inr (slot_ne (Or.inl (own_w hw 60 rfl)) (Or.inl (own_w hw 57 rfl)) (by decide) (t := (.array (.object "java/lang/Object"))) (t' := .int) (by decide) (by decide)))
  have Q349 : Arv Z h344 br kb (.object "java/lang/Object") (10 : Int32) [(.ref r0), .null, .null, .null, .null, .null, .null, .null, .null, .null] .null := P5.other W344 (Ne.symm ne_li_br)
  have U344 : Fld Z h344 li "java/util/AbstractList" "modCount" "I" (.int (mc + (1 : Int32))) := P4.same W344
  have Z344 : n0 ≤ h344.size := Nat.le_trans Z0 (Keep.of_wr W344).1
  have N344 := Fr.snoc X344 N0 g_li
  have K344 := K0.wr W344 (Or.inl (List.mem_of_getElem? (i := 0) rfl))
  refine own_go st344 ?_
  refine own_go (B := T344.setTop (mkF m 13 #[.val (.ref li), .val (.ref rr)] [(.ref li), (.ref rr), (.ref li)])) (fun t k => ?_) ?_
  · refine XS.aloadN X344.here hx rfl (hb hby d16_10) rfl rfl ?_
    refine XS.aloadN X344.here hx rfl (hb hby d16_11) rfl rfl ?_
    refine XS.aloadN X344.here hx rfl (hb hby d16_12) rfl rfl ?_
    exact k
  obtain ⟨T350, X350, e350, st350⟩ := getF X344 hx hZ hown (host := "") (Or.inl (own_w hw 59 rfl)) Via.refl e344 Q348 (g := (mkF m 13 #[.val (.ref li), .val (.ref rr)] [(.ref li), (.ref rr), (.ref li)])) rfl rfl (hb hby d16_13)
  refine own_go st350 ?_
  refine own_go (B := T350.setTop (mkF m 17 #[.val (.ref li), .val (.ref rr)] [(.ref li), (.ref br), (.ref rr), (.ref li)])) (fun t k => ?_) ?_
  · refine XS.aloadN X350.here hx rfl (hb hby d16_16) rfl rfl ?_
    exact k
  obtain ⟨T351, X351, e351, st351⟩ := getF X350 hx hZ hown (host := "") (Or.inl (own_w hw 94 rfl)) Via.refl e350 Q347 (g := (mkF m 17 #[.val (.ref li), .val (.ref rr)] [(.ref li), (.ref br), (.ref rr), (.ref li)])) rfl rfl (hb hby d16_17)
  refine own_go st351 ?_
  obtain ⟨cq352, q352, q352'⟩ := Q345.cell
  obtain ⟨_, _, ⟨T352, L352, k352, n352⟩, -, X352, ⟨Lc352, hQ352, l352, y352, z352⟩, st352⟩ := X351.privateBack hx (y := (⟨"java/util/ArrayList", "add", "(Ljava/lang/Object;[Ljava/lang/Object;I)V"⟩ : MethodName)) hown (mvT hZ (own_w hw 107 rfl)) (mvT hZ (own_w hw 108 rfl)) (mvT hZ (own_w hw 110 rfl)) (Cond.privateMethod_at (mvP hZ (own_w hw 109 rfl) (args := #[]))) (mvT hZ (own_w hw 111 rfl)) (by decide) (backOf (W := 0) (ad3_1 l Z a0 hw [] li rr br kb (mc + (1 : Int32)) r0 h344 n0 Z344 Q345 Q346 Q347 Q348 U344 Q349 g_li g_br ne_li_br hov) hZ (own_w hw 111 rfl) (own_w hw 39 rfl) (by decide) (by decide)) (g := (mkF m 20 #[.val (.ref li), .val (.ref rr)] [(.int (1 : Int32)), (.ref br), (.ref rr), (.ref li)])) rfl (by rw [hml]; rfl) (Steps.refl _) (a := li) (by rw [e351]; exact q352) q352' (argsL := [(.ref rr), (.ref br), (.int (1 : Int32))]) (rest := []) (lenOf pd_9 rfl) rfl (by show 2 * 0 + _ ≤ _; exact Nat.le_of_eq rfl) (hb hby d16_20) (fun _ _ => ⟨rfl, e351, (by decide : 0 + 0 ≤ _), (by decide : 0 + 0 ≤ _)⟩)
  dsimp only [Pt.U, Pt.locs, Pt.cells, Pt.slots] at X352 l352 y352 z352 st352 hQ352
  subst l352 y352 z352
  obtain ⟨rfl, Nq352, Kq352, U352_0, U352_1, U352_2, U352_3⟩ := hQ352
  have Q353 : Exa Z T352.heap li "java/util/ArrayList" := Q345.keep Kq352
  have Q354 : Exa Z T352.heap rr "java/lang/String" := Q346.keep Kq352
  have Z352 : n0 ≤ T352.heap.size := Nat.le_trans Z344 Kq352.1
  have K352 : Keep h0 T352.heap [li, br] := K344.trans Kq352 (allS (Or.inl (List.mem_of_getElem? (i := 0) rfl)) (allS (Or.inl (List.mem_of_getElem? (i := 1) rfl)) all0))
  have N352 := Fr.app N344 Nq352
  refine own_go (B := T352.setTop (mkF m 23 #[.val (.ref li), .val (.ref rr)] [])) (fun t k => st352.trans k) ?_
  refine own_go (B := T352.setTop (mkF m 24 #[.val (.ref li), .val (.ref rr)] [(.int (1 : Int32))])) (fun t k => ?_) ?_
  · refine XS.iconst X352.here hx rfl (hb hby d16_23) ?_
    exact k
  obtain ⟨fs, hr, hrun, hended, hW, hsame⟩ := X352.leave (v := some (.int (1 : Int32))) (fun h => by rw [Bd.returns] at h; cases h)
  refine ⟨_, _, ?_, hrun, hended, _, _, rfl, ?_, ⟨_, rfl⟩, hW, hsame.mono (by decide) (by decide)⟩
  · show Steps p.tables e below (T352.setTop (mkF m 24 #[.val (.ref li), .val (.ref rr)] [(.int (1 : Int32))])) _
    exact retN X352 hx (t := .boolean) Bd.returns (by simp) (hb hby d16_24) hr
  · show Qad1_1 Z li rr br kb mc r0 h0 n0 _ T352.heap _
    skip
    exact ⟨rfl, N352, K352, U352_0, U352_1, U352_2, U352_3⟩
def Qad3_2 (Z : State) (li : Addr) (rr : Addr) (br : Addr) (kb : ClassId) (mc : Int32) (r0 : Addr) (r1 : Addr) (h0 : Heap) (n0 : Nat) (v : Option Value) (h : Heap) (L : List Loc) : Prop := v = none ∧ Fr n0 L ∧ Keep h0 h [li, br] ∧ Fld Z h li "java/util/ArrayList" "size" "I" (.int (3 : Int32)) ∧ Fld Z h li "java/util/ArrayList" "elementData" "[Ljava/lang/Object;" (.ref br) ∧ Fld Z h li "java/util/AbstractList" "modCount" "I" (.int mc) ∧ Arv Z h br kb (.object "java/lang/Object") (10 : Int32) [(.ref r0), (.ref r1), (.ref rr), .null, .null, .null, .null, .null, .null, .null] .null
theorem efad3_2 (m : MethodId) (x0 : Addr) (x1 : Addr) (x2 : Addr) : entryFrame m #[(.ref x0), (.ref x1), (.ref x2), (.int (2 : Int32))] 4 = mkF m 0 #[.val (.ref x0), .val (.ref x1), .val (.ref x2), .val (.int (2 : Int32))] [] := by first | (simp [entryFrame, mkF, argsToLocals, Value.category]; done) | rfl
set_option maxRecDepth 65536 in
set_option maxHeartbeats 40000000 in
theorem ad3_2 (l : Launch) (Z : State) (a0 : Array Value) (hw : ∀ d ∈ tables_1, d.before a0 Z = true) (ws : List Jvm.Cond) (li : Addr) (rr : Addr) (br : Addr) (kb : ClassId) (mc : Int32) (r0 : Addr) (r1 : Addr) (h0 : Heap) (n0 : Nat) (Z0 : n0 ≤ h0.size) (P0 : Exa Z h0 li "java/util/ArrayList") (P1 : Exa Z h0 rr "java/lang/String") (P2 : Fld Z h0 li "java/util/ArrayList" "size" "I" (.int (2 : Int32))) (P3 : Fld Z h0 li "java/util/ArrayList" "elementData" "[Ljava/lang/Object;" (.ref br)) (P4 : Fld Z h0 li "java/util/AbstractList" "modCount" "I" (.int mc)) (P5 : Arv Z h0 br kb (.object "java/lang/Object") (10 : Int32) [(.ref r0), (.ref r1), .null, .null, .null, .null, .null, .null, .null, .null] .null) (g_li : n0 ≤ li) (g_br : n0 ≤ br) (ne_li_br : li ≠ br) (hov : Ovr Z kb "java/lang/Object") :
    MetFree l (⟨"java/util/ArrayList", "add", "(Ljava/lang/Object;[Ljava/lang/Object;I)V"⟩ : MethodName) (head1 (Jvm.Cond.code (⟨"java/util/ArrayList", "add", "(Ljava/lang/Object;[Ljava/lang/Object;I)V"⟩ : MethodName) jdk_38_method_24_code 4 none :: ws) ({ frames := 0, cells := 0, slots := 0, locals := 0 } : Room)) (fun a U => a = #[(.ref li), (.ref rr), (.ref br), (.int (2 : Int32))] ∧ Z.Warmed39 U.vm ∧ U.heap = h0) (fun _ _ _ _ _ => True) (fun _ U o U' => ∃ v L, o = .returned v ∧ Qad3_2 Z li rr br kb mc r0 r1 h0 n0 v U'.heap L ∧ FrameEnd U o U' L ({ frames := 0, cells := 0, slots := 0, locals := 0 } : Room).cells ({ frames := 0, cells := 0, slots := 0, locals := 0 } : Room).slots) := by
  refine MetFree.of_bodySF (plainFor_of_name pn_5) hisR ?_
  intro p e s m args below meth c s₁ Bd hml0 hP hK
  obtain ⟨rfl, hZ, hh⟩ := hP
  have hx := Bd.exec
  have hby := Bd.bytes
  have hml : c.maxLocals = 4 := hml0
  have hown : s.vm.findClass "java/util/ArrayList" = some m.cls := findClass_of_methodNamed Bd.named
  have hnm := (name_of_methodNamed Bd.named Bd.method).1
  have X0 : Stand p l e ({ frames := 0, cells := 0, slots := 0, locals := 0 } : Room) s m #[(.ref li), (.ref rr), (.ref br), (.int (2 : Int32))] below meth c s₁ [] 0 0 := Stand.of_body Bd
  have e0 : s₁.heap = h0 := by rw [← hh, Bd.state]; rfl
  have N0 := Fr.nil n0
  have K0 : Keep h0 h0 [li, br] := Keep.refl h0 _
  refine own_go (B := s₁.setTop (mkF m 0 #[.val (.ref li), .val (.ref rr), .val (.ref br), .val (.int (2 : Int32))] [])) (fun t k => castTop (efad3_2 m li rr br) k) ?_
  refine own_go (B := s₁.setTop (mkF m 2 #[.val (.ref li), .val (.ref rr), .val (.ref br), .val (.int (2 : Int32))] [(.ref br), (.int (2 : Int32))])) (fun t k => ?_) ?_
  · refine XS.iloadN X0.here hx rfl (hb hby d17_0) rfl ?_
    refine XS.aloadN X0.here hx rfl (hb hby d17_1) rfl rfl ?_
    exact k
  obtain ⟨cl355, Ar355, q355, S355, M355, Ha355, G355⟩ := id P5
  refine own_go (B := s₁.setTop (mkF m 3 #[.val (.ref li), .val (.ref rr), .val (.ref br), .val (.int (2 : Int32))] [(.int (10 : Int32)), (.int (2 : Int32))])) (fun t k => ?_) ?_
  · refine X0.arraylength hx (by rw [e0]; exact Ar355.1) (State.isArrayOf_alike hZ.alike Ar355.2.1) (g := (mkF m 2 #[.val (.ref li), .val (.ref rr), .val (.ref br), .val (.int (2 : Int32))] [(.ref br), (.int (2 : Int32))])) rfl rfl (hb hby d17_2) _ ?_
    rw [len_of S355 M355]
    exact k
  refine own_go (B := s₁.setTop (mkF m 14 #[.val (.ref li), .val (.ref rr), .val (.ref br), .val (.int (2 : Int32))] [(.ref rr), (.int (2 : Int32)), (.ref br)])) (fun t k => ?_) ?_
  · refine XS.icmpYes X0.here hx rfl (pc0 := 3) (pc' := 11) rfl (hb hby d17_3) rfl (feq (by decide : ¬ ((2 : Int32) = (10 : Int32)))).2 (by decide) (by decide) ?_
    refine XS.aloadN X0.here hx rfl (hb hby d17_11) rfl rfl ?_
    refine XS.iloadN X0.here hx rfl (hb hby d17_12) rfl ?_
    refine XS.aloadN X0.here hx rfl (hb hby d17_13) rfl rfl ?_
    exact k
  obtain ⟨cl357, Ar357, q357, S357, M357, Ha357, G357⟩ := id P5
  have hin357 : ¬ ((2 : Int32) < 0 ∨ cl357.slots.size ≤ ((2 : Int32)).toNatClampNeg) := inb_of S357 ⟨by decide, by decide⟩
  obtain ⟨T357, h357, X357, e357, W357, st357⟩ := stR X0 hx hZ e0 Ar357 (j := (2 : Int32)) hin357 rfl (Sto.ofV Ar357 q357 hov (Ins.of_exa P1 (own_w hw 128 rfl))) (g := (mkF m 14 #[.val (.ref li), .val (.ref rr), .val (.ref br), .val (.int (2 : Int32))] [(.ref rr), (.int (2 : Int32)), (.ref br)])) rfl rfl (hb hby d17_14)
  have Q358 : Exa Z h357 li "java/util/ArrayList" := P0.wr W357
  have Q359 : Exa Z h357 rr "java/lang/String" := P1.wr W357
  have Q360 : Fld Z h357 li "java/util/ArrayList" "size" "I" (.int (2 : Int32)) := P2.other W357 (Or.inl ne_li_br)
  have Q361 : Fld Z h357 li "java/util/ArrayList" "elementData" "[Ljava/lang/Object;" (.ref br) := P3.other W357 (Or.inl ne_li_br)
  have Q362 : Fld Z h357 li "java/util/AbstractList" "modCount" "I" (.int mc) := P4.other W357 (Or.inl ne_li_br)
  have U357 : Arv Z h357 br kb (.object "java/lang/Object") (10 : Int32) [(.ref r0), (.ref r1), (.ref rr), .null, .null, .null, .null, .null, .null, .null] .null := Arv.set Ar357 q357 S357 M357 Ha357 G357 rfl W357 2 rfl (Nat.le_of_ble_eq_true rfl)
  have Z357 : n0 ≤ h357.size := Nat.le_trans Z0 (Keep.of_wr W357).1
  have N357 := Fr.snoc X357 N0 g_br
  have K357 := K0.wr W357 (Or.inl (List.mem_of_getElem? (i := 1) rfl))
  refine own_go st357 ?_
  refine own_go (B := T357.setTop (mkF m 19 #[.val (.ref li), .val (.ref rr), .val (.ref br), .val (.int (2 : Int32))] [(.int (3 : Int32)), (.ref li)])) (fun t k => ?_) ?_
  · refine XS.aloadN X357.here hx rfl (hb hby d17_15) rfl rfl ?_
    refine XS.iloadN X357.here hx rfl (hb hby d17_16) rfl ?_
    refine XS.iconst X357.here hx rfl (hb hby d17_17) ?_
    refine XS.iadd X357.here hx rfl (hb hby d17_18) rfl ?_
    exact k
  obtain ⟨T363, h363, X363, e363, W363, st363⟩ := putF X357 hx hZ hown (host := "") (Or.inl (own_w hw 94 rfl)) Via.refl e357 Q360 Q358 (Or.inl (own_w hw 95 rfl)) (own_w hw 38 rfl) (ty := .int) (by decide) rfl rfl (g := (mkF m 19 #[.val (.ref li), .val (.ref rr), .val (.ref br), .val (.int (2 : Int32))] [(.int (3 : Int32)), (.ref li)])) rfl rfl (hb hby d17_19)
  have Q364 : Exa Z h363 li "java/util/ArrayList" := Q358.wr W363
  have Q365 : Exa Z h363 rr "java/lang/String" := Q359.wr W363
  have Q366 : Fld Z h363 li "java/util/ArrayList" "elementData" "[Ljava/lang/Object;" (.ref br) := Q361.other W363 (Or.inr (slot_ne (Or.inl (own_w hw 60 rfl)) (Or.inl (own_w hw 95 rfl)) (by decide) (t := (.array (.object "java/lang/Object"))) (t' := .int) (by decide) (by decide)))
  have Q367 : Fld Z h363 li "java/util/AbstractList" "modCount" "I" (.int mc) := Q362.other W363 (Or.inr (slot_ne (Or.inl (own_w hw 57 rfl)) (Or.inl (own_w hw 95 rfl)) (by decide) (t := .int) (t' := .int) (by decide) (by decide)))
  have Q368 : Arv Z h363 br kb (.object "java/lang/Object") (10 : Int32) [(.ref r0), (.ref r1), (.ref rr), .null, .null, .null, .null, .null, .null, .null] .null := U357.other W363 (Ne.symm ne_li_br)
  have U363 : Fld Z h363 li "java/util/ArrayList" "size" "I" (.int (3 : Int32)) := Q360.same W363
  have Z363 : n0 ≤ h363.size := Nat.le_trans Z357 (Keep.of_wr W363).1
  have N363 := Fr.snoc X363 N357 g_li
  have K363 := K357.wr W363 (Or.inl (List.mem_of_getElem? (i := 0) rfl))
  refine own_go st363 ?_
  obtain ⟨fs, hr, hrun, hended, hW, hsame⟩ := X363.leave (v := none) (fun _ => rfl)
  refine ⟨_, _, ?_, hrun, hended, _, _, rfl, ?_, ⟨_, rfl⟩, hW, hsame.mono (by decide) (by decide)⟩
  · show Steps p.tables e below (T363.setTop (mkF m 22 #[.val (.ref li), .val (.ref rr), .val (.ref br), .val (.int (2 : Int32))] [])) _
    exact X363.returnOut hx Bd.returns (hb hby d17_22) hr
  · show Qad3_2 Z li rr br kb mc r0 r1 h0 n0 _ T363.heap _
    rw [e363]
    exact ⟨rfl, N363, K363, U363, Q366, Q367, Q368⟩
def Qad1_2 (Z : State) (li : Addr) (rr : Addr) (br : Addr) (kb : ClassId) (mc : Int32) (r0 : Addr) (r1 : Addr) (h0 : Heap) (n0 : Nat) (v : Option Value) (h : Heap) (L : List Loc) : Prop := v = some (.int (1 : Int32)) ∧ Fr n0 L ∧ Keep h0 h [li, br] ∧ Fld Z h li "java/util/ArrayList" "size" "I" (.int (3 : Int32)) ∧ Fld Z h li "java/util/ArrayList" "elementData" "[Ljava/lang/Object;" (.ref br) ∧ Fld Z h li "java/util/AbstractList" "modCount" "I" (.int (mc + (1 : Int32))) ∧ Arv Z h br kb (.object "java/lang/Object") (10 : Int32) [(.ref r0), (.ref r1), (.ref rr), .null, .null, .null, .null, .null, .null, .null] .null
theorem efad1_2 (m : MethodId) (x0 : Addr) (x1 : Addr) : entryFrame m #[(.ref x0), (.ref x1)] 2 = mkF m 0 #[.val (.ref x0), .val (.ref x1)] [] := by first | (simp [entryFrame, mkF, argsToLocals, Value.category]; done) | rfl
set_option maxRecDepth 65536 in
set_option maxHeartbeats 40000000 in
theorem ad1_2 (l : Launch) (Z : State) (a0 : Array Value) (hw : ∀ d ∈ tables_1, d.before a0 Z = true) (ws : List Jvm.Cond) (li : Addr) (rr : Addr) (br : Addr) (kb : ClassId) (mc : Int32) (r0 : Addr) (r1 : Addr) (h0 : Heap) (n0 : Nat) (Z0 : n0 ≤ h0.size) (P0 : Exa Z h0 li "java/util/ArrayList") (P1 : Exa Z h0 rr "java/lang/String") (P2 : Fld Z h0 li "java/util/ArrayList" "size" "I" (.int (2 : Int32))) (P3 : Fld Z h0 li "java/util/ArrayList" "elementData" "[Ljava/lang/Object;" (.ref br)) (P4 : Fld Z h0 li "java/util/AbstractList" "modCount" "I" (.int mc)) (P5 : Arv Z h0 br kb (.object "java/lang/Object") (10 : Int32) [(.ref r0), (.ref r1), .null, .null, .null, .null, .null, .null, .null, .null] .null) (g_li : n0 ≤ li) (g_br : n0 ≤ br) (ne_li_br : li ≠ br) (hov : Ovr Z kb "java/lang/Object") :
    MetFree l (⟨"java/util/ArrayList", "add", "(Ljava/lang/Object;)Z"⟩ : MethodName) (head1 (Jvm.Cond.code (⟨"java/util/ArrayList", "add", "(Ljava/lang/Object;)Z"⟩ : MethodName) jdk_38_method_25_code 2 (some .boolean) :: ws) ({ frames := 1, cells := 0, slots := 0, locals := 15 } : Room)) (fun a U => a = #[(.ref li), (.ref rr)] ∧ Z.Warmed39 U.vm ∧ U.heap = h0) (fun _ _ _ _ _ => True) (fun _ U o U' => ∃ v L, o = .returned v ∧ Qad1_2 Z li rr br kb mc r0 r1 h0 n0 v U'.heap L ∧ FrameEnd U o U' L ({ frames := 1, cells := 0, slots := 0, locals := 15 } : Room).cells ({ frames := 1, cells := 0, slots := 0, locals := 15 } : Room).slots) := by
  refine MetFree.of_bodySF (plainFor_of_name pn_5) hisR ?_
  intro p e s m args below meth c s₁ Bd hml0 hP hK
  obtain ⟨rfl, hZ, hh⟩ := hP
  have hx := Bd.exec
  have hby := Bd.bytes
  have hml : c.maxLocals = 2 := hml0
  have hown : s.vm.findClass "java/util/ArrayList" = some m.cls := findClass_of_methodNamed Bd.named
  have hnm := (name_of_methodNamed Bd.named Bd.method).1
  have X0 : Stand p l e ({ frames := 1, cells := 0, slots := 0, locals := 15 } : Room) s m #[(.ref li), (.ref rr)] below meth c s₁ [] 0 0 := Stand.of_body Bd
  have e0 : s₁.heap = h0 := by rw [← hh, Bd.state]; rfl
  have N0 := Fr.nil n0
  have K0 : Keep h0 h0 [li, br] := Keep.refl h0 _
  refine own_go (B := s₁.setTop (mkF m 0 #[.val (.ref li), .val (.ref rr)] [])) (fun t k => castTop (efad1_2 m li rr) k) ?_
  refine own_go (B := s₁.setTop (mkF m 2 #[.val (.ref li), .val (.ref rr)] [(.ref li), (.ref li)])) (fun t k => ?_) ?_
  · refine XS.aloadN X0.here hx rfl (hb hby d16_0) rfl rfl ?_
    refine XS.dup X0.here hx rfl (hb hby d16_1) rfl rfl ?_
    exact k
  obtain ⟨T369, X369, e369, st369⟩ := getF X0 hx hZ hown (host := "") (Or.inl (own_w hw 105 rfl)) (Via.of (own_w hw 106 rfl)) e0 P4 (g := (mkF m 2 #[.val (.ref li), .val (.ref rr)] [(.ref li), (.ref li)])) rfl rfl (hb hby d16_2)
  refine own_go st369 ?_
  refine own_go (B := T369.setTop (mkF m 7 #[.val (.ref li), .val (.ref rr)] [(.int (mc + (1 : Int32))), (.ref li)])) (fun t k => ?_) ?_
  · refine XS.iconst X369.here hx rfl (hb hby d16_5) ?_
    refine XS.iadd X369.here hx rfl (hb hby d16_6) rfl ?_
    exact k
  obtain ⟨T370, h370, X370, e370, W370, st370⟩ := putF X369 hx hZ hown (host := "") (Or.inl (own_w hw 105 rfl)) (Via.of (own_w hw 106 rfl)) e369 P4 P0 (Or.inl (own_w hw 57 rfl)) (own_w hw 38 rfl) (ty := .int) (by decide) rfl rfl (g := (mkF m 7 #[.val (.ref li), .val (.ref rr)] [(.int (mc + (1 : Int32))), (.ref li)])) rfl rfl (hb hby d16_7)
  have Q371 : Exa Z h370 li "java/util/ArrayList" := P0.wr W370
  have Q372 : Exa Z h370 rr "java/lang/String" := P1.wr W370
  have Q373 : Fld Z h370 li "java/util/ArrayList" "size" "I" (.int (2 : Int32)) := P2.other W370 (Or.inr (slot_ne (Or.inl (own_w hw 95 rfl)) (Or.inl (own_w hw 57 rfl)) (by decide) (t := .int) (t' := .int) (by decide) (by decide)))
  have Q374 : Fld Z h370 li "java/util/ArrayList" "elementData" "[Ljava/lang/Object;" (.ref br) := P3.other W370 (Or.inr (slot_ne (Or.inl (own_w hw 60 rfl)) (Or.inl (own_w hw 57 rfl)) (by decide) (t := (.array (.object "java/lang/Object"))) (t' := .int) (by decide) (by decide)))
  have Q375 : Arv Z h370 br kb (.object "java/lang/Object") (10 : Int32) [(.ref r0), (.ref r1), .null, .null, .null, .null, .null, .null, .null, .null] .null := P5.other W370 (Ne.symm ne_li_br)
  have U370 : Fld Z h370 li "java/util/AbstractList" "modCount" "I" (.int (mc + (1 : Int32))) := P4.same W370
  have Z370 : n0 ≤ h370.size := Nat.le_trans Z0 (Keep.of_wr W370).1
  have N370 := Fr.snoc X370 N0 g_li
  have K370 := K0.wr W370 (Or.inl (List.mem_of_getElem? (i := 0) rfl))
  refine own_go st370 ?_
  refine own_go (B := T370.setTop (mkF m 13 #[.val (.ref li), .val (.ref rr)] [(.ref li), (.ref rr), (.ref li)])) (fun t k => ?_) ?_
  · refine XS.aloadN X370.here hx rfl (hb hby d16_10) rfl rfl ?_
    refine XS.aloadN X370.here hx rfl (hb hby d16_11) rfl rfl ?_
    refine XS.aloadN X370.here hx rfl (hb hby d16_12) rfl rfl ?_
    exact k
  obtain ⟨T376, X376, e376, st376⟩ := getF X370 hx hZ hown (host := "") (Or.inl (own_w hw 59 rfl)) Via.refl e370 Q374 (g := (mkF m 13 #[.val (.ref li), .val (.ref rr)] [(.ref li), (.ref rr), (.ref li)])) rfl rfl (hb hby d16_13)
  refine own_go st376 ?_
  refine own_go (B := T376.setTop (mkF m 17 #[.val (.ref li), .val (.ref rr)] [(.ref li), (.ref br), (.ref rr), (.ref li)])) (fun t k => ?_) ?_
  · refine XS.aloadN X376.here hx rfl (hb hby d16_16) rfl rfl ?_
    exact k
  obtain ⟨T377, X377, e377, st377⟩ := getF X376 hx hZ hown (host := "") (Or.inl (own_w hw 94 rfl)) Via.refl e376 Q373 (g := (mkF m 17 #[.val (.ref li), .val (.ref rr)] [(.ref li), (.ref br), (.ref rr), (.ref li)])) rfl rfl (hb hby d16_17)
  refine own_go st377 ?_
  obtain ⟨cq378, q378, q378'⟩ := Q371.cell
  obtain ⟨_, _, ⟨T378, L378, k378, n378⟩, -, X378, ⟨Lc378, hQ378, l378, y378, z378⟩, st378⟩ := X377.privateBack hx (y := (⟨"java/util/ArrayList", "add", "(Ljava/lang/Object;[Ljava/lang/Object;I)V"⟩ : MethodName)) hown (mvT hZ (own_w hw 107 rfl)) (mvT hZ (own_w hw 108 rfl)) (mvT hZ (own_w hw 110 rfl)) (Cond.privateMethod_at (mvP hZ (own_w hw 109 rfl) (args := #[]))) (mvT hZ (own_w hw 111 rfl)) (by decide) (backOf (W := 0) (ad3_2 l Z a0 hw [] li rr br kb (mc + (1 : Int32)) r0 r1 h370 n0 Z370 Q371 Q372 Q373 Q374 U370 Q375 g_li g_br ne_li_br hov) hZ (own_w hw 111 rfl) (own_w hw 39 rfl) (by decide) (by decide)) (g := (mkF m 20 #[.val (.ref li), .val (.ref rr)] [(.int (2 : Int32)), (.ref br), (.ref rr), (.ref li)])) rfl (by rw [hml]; rfl) (Steps.refl _) (a := li) (by rw [e377]; exact q378) q378' (argsL := [(.ref rr), (.ref br), (.int (2 : Int32))]) (rest := []) (lenOf pd_9 rfl) rfl (by show 2 * 0 + _ ≤ _; exact Nat.le_of_eq rfl) (hb hby d16_20) (fun _ _ => ⟨rfl, e377, (by decide : 0 + 0 ≤ _), (by decide : 0 + 0 ≤ _)⟩)
  dsimp only [Pt.U, Pt.locs, Pt.cells, Pt.slots] at X378 l378 y378 z378 st378 hQ378
  subst l378 y378 z378
  obtain ⟨rfl, Nq378, Kq378, U378_0, U378_1, U378_2, U378_3⟩ := hQ378
  have Q379 : Exa Z T378.heap li "java/util/ArrayList" := Q371.keep Kq378
  have Q380 : Exa Z T378.heap rr "java/lang/String" := Q372.keep Kq378
  have Z378 : n0 ≤ T378.heap.size := Nat.le_trans Z370 Kq378.1
  have K378 : Keep h0 T378.heap [li, br] := K370.trans Kq378 (allS (Or.inl (List.mem_of_getElem? (i := 0) rfl)) (allS (Or.inl (List.mem_of_getElem? (i := 1) rfl)) all0))
  have N378 := Fr.app N370 Nq378
  refine own_go (B := T378.setTop (mkF m 23 #[.val (.ref li), .val (.ref rr)] [])) (fun t k => st378.trans k) ?_
  refine own_go (B := T378.setTop (mkF m 24 #[.val (.ref li), .val (.ref rr)] [(.int (1 : Int32))])) (fun t k => ?_) ?_
  · refine XS.iconst X378.here hx rfl (hb hby d16_23) ?_
    exact k
  obtain ⟨fs, hr, hrun, hended, hW, hsame⟩ := X378.leave (v := some (.int (1 : Int32))) (fun h => by rw [Bd.returns] at h; cases h)
  refine ⟨_, _, ?_, hrun, hended, _, _, rfl, ?_, ⟨_, rfl⟩, hW, hsame.mono (by decide) (by decide)⟩
  · show Steps p.tables e below (T378.setTop (mkF m 24 #[.val (.ref li), .val (.ref rr)] [(.int (1 : Int32))])) _
    exact retN X378 hx (t := .boolean) Bd.returns (by simp) (hb hby d16_24) hr
  · show Qad1_2 Z li rr br kb mc r0 r1 h0 n0 _ T378.heap _
    skip
    exact ⟨rfl, N378, K378, U378_0, U378_1, U378_2, U378_3⟩
def Qsz_0 (Z : State) (li : Addr) (h0 : Heap) (n0 : Nat) (v : Option Value) (h : Heap) (L : List Loc) : Prop := v = some (.int (0 : Int32)) ∧ Fr n0 L ∧ h = h0
theorem efsz_0 (m : MethodId) (x0 : Addr) : entryFrame m #[(.ref x0)] 1 = mkF m 0 #[.val (.ref x0)] [] := by first | (simp [entryFrame, mkF, argsToLocals, Value.category]; done) | rfl
set_option maxRecDepth 65536 in
set_option maxHeartbeats 40000000 in
theorem sz_0 (l : Launch) (Z : State) (a0 : Array Value) (hw : ∀ d ∈ tables_1, d.before a0 Z = true) (ws : List Jvm.Cond) (li : Addr) (h0 : Heap) (n0 : Nat) (Z0 : n0 ≤ h0.size) (P0 : Fld Z h0 li "java/util/ArrayList" "size" "I" (.int (0 : Int32))) :
    MetFree l (⟨"java/util/ArrayList", "size", "()I"⟩ : MethodName) (head1 (Jvm.Cond.code (⟨"java/util/ArrayList", "size", "()I"⟩ : MethodName) jdk_38_method_8_code 1 (some .int) :: ws) ({ frames := 0, cells := 0, slots := 0, locals := 0 } : Room)) (fun a U => a = #[(.ref li)] ∧ Z.Warmed39 U.vm ∧ U.heap = h0) (fun _ _ _ _ _ => True) (fun _ U o U' => ∃ v L, o = .returned v ∧ Qsz_0 Z li h0 n0 v U'.heap L ∧ FrameEnd U o U' L ({ frames := 0, cells := 0, slots := 0, locals := 0 } : Room).cells ({ frames := 0, cells := 0, slots := 0, locals := 0 } : Room).slots) := by
  refine MetFree.of_bodySF (plainFor_of_name pn_5) hisR ?_
  intro p e s m args below meth c s₁ Bd hml0 hP hK
  obtain ⟨rfl, hZ, hh⟩ := hP
  have hx := Bd.exec
  have hby := Bd.bytes
  have hml : c.maxLocals = 1 := hml0
  have hown : s.vm.findClass "java/util/ArrayList" = some m.cls := findClass_of_methodNamed Bd.named
  have hnm := (name_of_methodNamed Bd.named Bd.method).1
  have X0 : Stand p l e ({ frames := 0, cells := 0, slots := 0, locals := 0 } : Room) s m #[(.ref li)] below meth c s₁ [] 0 0 := Stand.of_body Bd
  have e0 : s₁.heap = h0 := by rw [← hh, Bd.state]; rfl
  have N0 := Fr.nil n0
  have K0 : Keep h0 h0 [] := Keep.refl h0 _
  refine own_go (B := s₁.setTop (mkF m 0 #[.val (.ref li)] [])) (fun t k => castTop (efsz_0 m li) k) ?_
  refine own_go (B := s₁.setTop (mkF m 1 #[.val (.ref li)] [(.ref li)])) (fun t k => ?_) ?_
  · refine XS.aloadN X0.here hx rfl (hb hby d15_0) rfl rfl ?_
    exact k
  obtain ⟨T381, X381, e381, st381⟩ := getF X0 hx hZ hown (host := "") (Or.inl (own_w hw 94 rfl)) Via.refl e0 P0 (g := (mkF m 1 #[.val (.ref li)] [(.ref li)])) rfl rfl (hb hby d15_1)
  refine own_go st381 ?_
  obtain ⟨fs, hr, hrun, hended, hW, hsame⟩ := X381.leave (v := some (.int (0 : Int32))) (fun h => by rw [Bd.returns] at h; cases h)
  refine ⟨_, _, ?_, hrun, hended, _, _, rfl, ?_, ⟨_, rfl⟩, hW, hsame.mono (by decide) (by decide)⟩
  · show Steps p.tables e below (T381.setTop (mkF m 4 #[.val (.ref li)] [(.int (0 : Int32))])) _
    exact retOut X381 hx Bd.returns rfl (Or.inl ⟨rfl, Or.inl rfl, _, rfl⟩) (hb hby d15_4) hr
  · show Qsz_0 Z li h0 n0 _ T381.heap _
    rw [e381]
    exact ⟨rfl, N0, rfl⟩
def Qsz_1 (Z : State) (li : Addr) (h0 : Heap) (n0 : Nat) (v : Option Value) (h : Heap) (L : List Loc) : Prop := v = some (.int (1 : Int32)) ∧ Fr n0 L ∧ h = h0
theorem efsz_1 (m : MethodId) (x0 : Addr) : entryFrame m #[(.ref x0)] 1 = mkF m 0 #[.val (.ref x0)] [] := by first | (simp [entryFrame, mkF, argsToLocals, Value.category]; done) | rfl
set_option maxRecDepth 65536 in
set_option maxHeartbeats 40000000 in
theorem sz_1 (l : Launch) (Z : State) (a0 : Array Value) (hw : ∀ d ∈ tables_1, d.before a0 Z = true) (ws : List Jvm.Cond) (li : Addr) (h0 : Heap) (n0 : Nat) (Z0 : n0 ≤ h0.size) (P0 : Fld Z h0 li "java/util/ArrayList" "size" "I" (.int (1 : Int32))) :
    MetFree l (⟨"java/util/ArrayList", "size", "()I"⟩ : MethodName) (head1 (Jvm.Cond.code (⟨"java/util/ArrayList", "size", "()I"⟩ : MethodName) jdk_38_method_8_code 1 (some .int) :: ws) ({ frames := 0, cells := 0, slots := 0, locals := 0 } : Room)) (fun a U => a = #[(.ref li)] ∧ Z.Warmed39 U.vm ∧ U.heap = h0) (fun _ _ _ _ _ => True) (fun _ U o U' => ∃ v L, o = .returned v ∧ Qsz_1 Z li h0 n0 v U'.heap L ∧ FrameEnd U o U' L ({ frames := 0, cells := 0, slots := 0, locals := 0 } : Room).cells ({ frames := 0, cells := 0, slots := 0, locals := 0 } : Room).slots) := by
  refine MetFree.of_bodySF (plainFor_of_name pn_5) hisR ?_
  intro p e s m args below meth c s₁ Bd hml0 hP hK
  obtain ⟨rfl, hZ, hh⟩ := hP
  have hx := Bd.exec
  have hby := Bd.bytes
  have hml : c.maxLocals = 1 := hml0
  have hown : s.vm.findClass "java/util/ArrayList" = some m.cls := findClass_of_methodNamed Bd.named
  have hnm := (name_of_methodNamed Bd.named Bd.method).1
  have X0 : Stand p l e ({ frames := 0, cells := 0, slots := 0, locals := 0 } : Room) s m #[(.ref li)] below meth c s₁ [] 0 0 := Stand.of_body Bd
  have e0 : s₁.heap = h0 := by rw [← hh, Bd.state]; rfl
  have N0 := Fr.nil n0
  have K0 : Keep h0 h0 [] := Keep.refl h0 _
  refine own_go (B := s₁.setTop (mkF m 0 #[.val (.ref li)] [])) (fun t k => castTop (efsz_1 m li) k) ?_
  refine own_go (B := s₁.setTop (mkF m 1 #[.val (.ref li)] [(.ref li)])) (fun t k => ?_) ?_
  · refine XS.aloadN X0.here hx rfl (hb hby d15_0) rfl rfl ?_
    exact k
  obtain ⟨T382, X382, e382, st382⟩ := getF X0 hx hZ hown (host := "") (Or.inl (own_w hw 94 rfl)) Via.refl e0 P0 (g := (mkF m 1 #[.val (.ref li)] [(.ref li)])) rfl rfl (hb hby d15_1)
  refine own_go st382 ?_
  obtain ⟨fs, hr, hrun, hended, hW, hsame⟩ := X382.leave (v := some (.int (1 : Int32))) (fun h => by rw [Bd.returns] at h; cases h)
  refine ⟨_, _, ?_, hrun, hended, _, _, rfl, ?_, ⟨_, rfl⟩, hW, hsame.mono (by decide) (by decide)⟩
  · show Steps p.tables e below (T382.setTop (mkF m 4 #[.val (.ref li)] [(.int (1 : Int32))])) _
    exact retOut X382 hx Bd.returns rfl (Or.inl ⟨rfl, Or.inl rfl, _, rfl⟩) (hb hby d15_4) hr
  · show Qsz_1 Z li h0 n0 _ T382.heap _
    rw [e382]
    exact ⟨rfl, N0, rfl⟩
def Qsz_2 (Z : State) (li : Addr) (h0 : Heap) (n0 : Nat) (v : Option Value) (h : Heap) (L : List Loc) : Prop := v = some (.int (2 : Int32)) ∧ Fr n0 L ∧ h = h0
theorem efsz_2 (m : MethodId) (x0 : Addr) : entryFrame m #[(.ref x0)] 1 = mkF m 0 #[.val (.ref x0)] [] := by first | (simp [entryFrame, mkF, argsToLocals, Value.category]; done) | rfl
set_option maxRecDepth 65536 in
set_option maxHeartbeats 40000000 in
theorem sz_2 (l : Launch) (Z : State) (a0 : Array Value) (hw : ∀ d ∈ tables_1, d.before a0 Z = true) (ws : List Jvm.Cond) (li : Addr) (h0 : Heap) (n0 : Nat) (Z0 : n0 ≤ h0.size) (P0 : Fld Z h0 li "java/util/ArrayList" "size" "I" (.int (2 : Int32))) :
    MetFree l (⟨"java/util/ArrayList", "size", "()I"⟩ : MethodName) (head1 (Jvm.Cond.code (⟨"java/util/ArrayList", "size", "()I"⟩ : MethodName) jdk_38_method_8_code 1 (some .int) :: ws) ({ frames := 0, cells := 0, slots := 0, locals := 0 } : Room)) (fun a U => a = #[(.ref li)] ∧ Z.Warmed39 U.vm ∧ U.heap = h0) (fun _ _ _ _ _ => True) (fun _ U o U' => ∃ v L, o = .returned v ∧ Qsz_2 Z li h0 n0 v U'.heap L ∧ FrameEnd U o U' L ({ frames := 0, cells := 0, slots := 0, locals := 0 } : Room).cells ({ frames := 0, cells := 0, slots := 0, locals := 0 } : Room).slots) := by
  refine MetFree.of_bodySF (plainFor_of_name pn_5) hisR ?_
  intro p e s m args below meth c s₁ Bd hml0 hP hK
  obtain ⟨rfl, hZ, hh⟩ := hP
  have hx := Bd.exec
  have hby := Bd.bytes
  have hml : c.maxLocals = 1 := hml0
  have hown : s.vm.findClass "java/util/ArrayList" = some m.cls := findClass_of_methodNamed Bd.named
  have hnm := (name_of_methodNamed Bd.named Bd.method).1
  have X0 : Stand p l e ({ frames := 0, cells := 0, slots := 0, locals := 0 } : Room) s m #[(.ref li)] below meth c s₁ [] 0 0 := Stand.of_body Bd
  have e0 : s₁.heap = h0 := by rw [← hh, Bd.state]; rfl
  have N0 := Fr.nil n0
  have K0 : Keep h0 h0 [] := Keep.refl h0 _
  refine own_go (B := s₁.setTop (mkF m 0 #[.val (.ref li)] [])) (fun t k => castTop (efsz_2 m li) k) ?_
  refine own_go (B := s₁.setTop (mkF m 1 #[.val (.ref li)] [(.ref li)])) (fun t k => ?_) ?_
  · refine XS.aloadN X0.here hx rfl (hb hby d15_0) rfl rfl ?_
    exact k
  obtain ⟨T383, X383, e383, st383⟩ := getF X0 hx hZ hown (host := "") (Or.inl (own_w hw 94 rfl)) Via.refl e0 P0 (g := (mkF m 1 #[.val (.ref li)] [(.ref li)])) rfl rfl (hb hby d15_1)
  refine own_go st383 ?_
  obtain ⟨fs, hr, hrun, hended, hW, hsame⟩ := X383.leave (v := some (.int (2 : Int32))) (fun h => by rw [Bd.returns] at h; cases h)
  refine ⟨_, _, ?_, hrun, hended, _, _, rfl, ?_, ⟨_, rfl⟩, hW, hsame.mono (by decide) (by decide)⟩
  · show Steps p.tables e below (T383.setTop (mkF m 4 #[.val (.ref li)] [(.int (2 : Int32))])) _
    exact retOut X383 hx Bd.returns rfl (Or.inl ⟨rfl, Or.inl rfl, _, rfl⟩) (hb hby d15_4) hr
  · show Qsz_2 Z li h0 n0 _ T383.heap _
    rw [e383]
    exact ⟨rfl, N0, rfl⟩
def Qsz_3 (Z : State) (li : Addr) (h0 : Heap) (n0 : Nat) (v : Option Value) (h : Heap) (L : List Loc) : Prop := v = some (.int (3 : Int32)) ∧ Fr n0 L ∧ h = h0
theorem efsz_3 (m : MethodId) (x0 : Addr) : entryFrame m #[(.ref x0)] 1 = mkF m 0 #[.val (.ref x0)] [] := by first | (simp [entryFrame, mkF, argsToLocals, Value.category]; done) | rfl
set_option maxRecDepth 65536 in
set_option maxHeartbeats 40000000 in
theorem sz_3 (l : Launch) (Z : State) (a0 : Array Value) (hw : ∀ d ∈ tables_1, d.before a0 Z = true) (ws : List Jvm.Cond) (li : Addr) (h0 : Heap) (n0 : Nat) (Z0 : n0 ≤ h0.size) (P0 : Fld Z h0 li "java/util/ArrayList" "size" "I" (.int (3 : Int32))) :
    MetFree l (⟨"java/util/ArrayList", "size", "()I"⟩ : MethodName) (head1 (Jvm.Cond.code (⟨"java/util/ArrayList", "size", "()I"⟩ : MethodName) jdk_38_method_8_code 1 (some .int) :: ws) ({ frames := 0, cells := 0, slots := 0, locals := 0 } : Room)) (fun a U => a = #[(.ref li)] ∧ Z.Warmed39 U.vm ∧ U.heap = h0) (fun _ _ _ _ _ => True) (fun _ U o U' => ∃ v L, o = .returned v ∧ Qsz_3 Z li h0 n0 v U'.heap L ∧ FrameEnd U o U' L ({ frames := 0, cells := 0, slots := 0, locals := 0 } : Room).cells ({ frames := 0, cells := 0, slots := 0, locals := 0 } : Room).slots) := by
  refine MetFree.of_bodySF (plainFor_of_name pn_5) hisR ?_
  intro p e s m args below meth c s₁ Bd hml0 hP hK
  obtain ⟨rfl, hZ, hh⟩ := hP
  have hx := Bd.exec
  have hby := Bd.bytes
  have hml : c.maxLocals = 1 := hml0
  have hown : s.vm.findClass "java/util/ArrayList" = some m.cls := findClass_of_methodNamed Bd.named
  have hnm := (name_of_methodNamed Bd.named Bd.method).1
  have X0 : Stand p l e ({ frames := 0, cells := 0, slots := 0, locals := 0 } : Room) s m #[(.ref li)] below meth c s₁ [] 0 0 := Stand.of_body Bd
  have e0 : s₁.heap = h0 := by rw [← hh, Bd.state]; rfl
  have N0 := Fr.nil n0
  have K0 : Keep h0 h0 [] := Keep.refl h0 _
  refine own_go (B := s₁.setTop (mkF m 0 #[.val (.ref li)] [])) (fun t k => castTop (efsz_3 m li) k) ?_
  refine own_go (B := s₁.setTop (mkF m 1 #[.val (.ref li)] [(.ref li)])) (fun t k => ?_) ?_
  · refine XS.aloadN X0.here hx rfl (hb hby d15_0) rfl rfl ?_
    exact k
  obtain ⟨T384, X384, e384, st384⟩ := getF X0 hx hZ hown (host := "") (Or.inl (own_w hw 94 rfl)) Via.refl e0 P0 (g := (mkF m 1 #[.val (.ref li)] [(.ref li)])) rfl rfl (hb hby d15_1)
  refine own_go st384 ?_
  obtain ⟨fs, hr, hrun, hended, hW, hsame⟩ := X384.leave (v := some (.int (3 : Int32))) (fun h => by rw [Bd.returns] at h; cases h)
  refine ⟨_, _, ?_, hrun, hended, _, _, rfl, ?_, ⟨_, rfl⟩, hW, hsame.mono (by decide) (by decide)⟩
  · show Steps p.tables e below (T384.setTop (mkF m 4 #[.val (.ref li)] [(.int (3 : Int32))])) _
    exact retOut X384 hx Bd.returns rfl (Or.inl ⟨rfl, Or.inl rfl, _, rfl⟩) (hb hby d15_4) hr
  · show Qsz_3 Z li h0 n0 _ T384.heap _
    rw [e384]
    exact ⟨rfl, N0, rfl⟩
def Qpci_0_1 (Z : State)  (h0 : Heap) (n0 : Nat) (v : Option Value) (h : Heap) (L : List Loc) : Prop := v = some (.int (0 : Int32)) ∧ Fr n0 L ∧ h = h0
theorem efpci_0_1 (m : MethodId)  : entryFrame m #[(.int (0 : Int32)), (.int (1 : Int32)), .null] 3 = mkF m 0 #[.val (.int (0 : Int32)), .val (.int (1 : Int32)), .val .null] [] := by first | (simp [entryFrame, mkF, argsToLocals, Value.category]; done) | rfl
set_option maxRecDepth 65536 in
set_option maxHeartbeats 40000000 in
theorem pci_0_1 (l : Launch) (Z : State) (a0 : Array Value) (hw : ∀ d ∈ tables_1, d.before a0 Z = true) (ws : List Jvm.Cond)  (h0 : Heap) (n0 : Nat) (Z0 : n0 ≤ h0.size)  :
    MetFree l (⟨"jdk/internal/util/Preconditions", "checkIndex", "(IILjava/util/function/BiFunction;)I"⟩ : MethodName) (head1 (Jvm.Cond.code (⟨"jdk/internal/util/Preconditions", "checkIndex", "(IILjava/util/function/BiFunction;)I"⟩ : MethodName) jdk_41_method_11_code 3 (some .int) :: ws) ({ frames := 0, cells := 0, slots := 0, locals := 0 } : Room)) (fun a U => a = #[(.int (0 : Int32)), (.int (1 : Int32)), .null] ∧ Z.Warmed39 U.vm ∧ U.heap = h0) (fun _ _ _ _ _ => True) (fun _ U o U' => ∃ v L, o = .returned v ∧ Qpci_0_1 Z  h0 n0 v U'.heap L ∧ FrameEnd U o U' L ({ frames := 0, cells := 0, slots := 0, locals := 0 } : Room).cells ({ frames := 0, cells := 0, slots := 0, locals := 0 } : Room).slots) := by
  refine MetFree.of_bodySF (plainFor_of_name pn_6) hisR ?_
  intro p e s m args below meth c s₁ Bd hml0 hP hK
  obtain ⟨rfl, hZ, hh⟩ := hP
  have hx := Bd.exec
  have hby := Bd.bytes
  have hml : c.maxLocals = 3 := hml0
  have hown : s.vm.findClass "jdk/internal/util/Preconditions" = some m.cls := findClass_of_methodNamed Bd.named
  have hnm := (name_of_methodNamed Bd.named Bd.method).1
  have X0 : Stand p l e ({ frames := 0, cells := 0, slots := 0, locals := 0 } : Room) s m #[(.int (0 : Int32)), (.int (1 : Int32)), .null] below meth c s₁ [] 0 0 := Stand.of_body Bd
  have e0 : s₁.heap = h0 := by rw [← hh, Bd.state]; rfl
  have N0 := Fr.nil n0
  have K0 : Keep h0 h0 [] := Keep.refl h0 _
  refine own_go (B := s₁.setTop (mkF m 0 #[.val (.int (0 : Int32)), .val (.int (1 : Int32)), .val .null] [])) (fun t k => castTop (efpci_0_1 m ) k) ?_
  refine own_go (B := s₁.setTop (mkF m 17 #[.val (.int (0 : Int32)), .val (.int (1 : Int32)), .val .null] [(.int (0 : Int32))])) (fun t k => ?_) ?_
  · refine XS.iloadN X0.here hx rfl (hb hby d23_0) rfl ?_
    refine XS.ifNo X0.here hx rfl (hb hby d23_1) rfl ((if0 _ _).trans (flt Int32.lt_irrefl).1) ?_
    refine XS.iloadN X0.here hx rfl (hb hby d23_4) rfl ?_
    refine XS.iloadN X0.here hx rfl (hb hby d23_5) rfl ?_
    refine XS.icmpYes X0.here hx rfl (pc0 := 6) (pc' := 16) rfl (hb hby d23_6) rfl (tlt (by decide : ((0 : Int32) < (1 : Int32)))).1 (by decide) (by decide) ?_
    refine XS.iloadN X0.here hx rfl (hb hby d23_16) rfl ?_
    exact k
  obtain ⟨fs, hr, hrun, hended, hW, hsame⟩ := X0.leave (v := some (.int (0 : Int32))) (fun h => by rw [Bd.returns] at h; cases h)
  refine ⟨_, _, ?_, hrun, hended, _, _, rfl, ?_, ⟨_, rfl⟩, hW, hsame.mono (by decide) (by decide)⟩
  · show Steps p.tables e below (s₁.setTop (mkF m 17 #[.val (.int (0 : Int32)), .val (.int (1 : Int32)), .val .null] [(.int (0 : Int32))])) _
    exact retOut X0 hx Bd.returns rfl (Or.inl ⟨rfl, Or.inl rfl, _, rfl⟩) (hb hby d23_17) hr
  · show Qpci_0_1 Z  h0 n0 _ s₁.heap _
    rw [e0]
    exact ⟨rfl, N0, rfl⟩
def Qoci_0_1 (Z : State)  (h0 : Heap) (n0 : Nat) (v : Option Value) (h : Heap) (L : List Loc) : Prop := v = some (.int (0 : Int32)) ∧ Fr n0 L ∧ h = h0
theorem efoci_0_1 (m : MethodId)  : entryFrame m #[(.int (0 : Int32)), (.int (1 : Int32))] 2 = mkF m 0 #[.val (.int (0 : Int32)), .val (.int (1 : Int32))] [] := by first | (simp [entryFrame, mkF, argsToLocals, Value.category]; done) | rfl
set_option maxRecDepth 65536 in
set_option maxHeartbeats 40000000 in
theorem oci_0_1 (l : Launch) (Z : State) (a0 : Array Value) (hw : ∀ d ∈ tables_1, d.before a0 Z = true) (ws : List Jvm.Cond)  (h0 : Heap) (n0 : Nat) (Z0 : n0 ≤ h0.size)  :
    MetFree l (⟨"java/util/Objects", "checkIndex", "(II)I"⟩ : MethodName) (head1 (Jvm.Cond.code (⟨"java/util/Objects", "checkIndex", "(II)I"⟩ : MethodName) jdk_31_method_17_code 2 (some .int) :: ws) ({ frames := 1, cells := 0, slots := 0, locals := 14 } : Room)) (fun a U => a = #[(.int (0 : Int32)), (.int (1 : Int32))] ∧ Z.Warmed39 U.vm ∧ U.heap = h0) (fun _ _ _ _ _ => True) (fun _ U o U' => ∃ v L, o = .returned v ∧ Qoci_0_1 Z  h0 n0 v U'.heap L ∧ FrameEnd U o U' L ({ frames := 1, cells := 0, slots := 0, locals := 14 } : Room).cells ({ frames := 1, cells := 0, slots := 0, locals := 14 } : Room).slots) := by
  refine MetFree.of_bodySF (plainFor_of_name pn_7) hisR ?_
  intro p e s m args below meth c s₁ Bd hml0 hP hK
  obtain ⟨rfl, hZ, hh⟩ := hP
  have hx := Bd.exec
  have hby := Bd.bytes
  have hml : c.maxLocals = 2 := hml0
  have hown : s.vm.findClass "java/util/Objects" = some m.cls := findClass_of_methodNamed Bd.named
  have hnm := (name_of_methodNamed Bd.named Bd.method).1
  have X0 : Stand p l e ({ frames := 1, cells := 0, slots := 0, locals := 14 } : Room) s m #[(.int (0 : Int32)), (.int (1 : Int32))] below meth c s₁ [] 0 0 := Stand.of_body Bd
  have e0 : s₁.heap = h0 := by rw [← hh, Bd.state]; rfl
  have N0 := Fr.nil n0
  have K0 : Keep h0 h0 [] := Keep.refl h0 _
  refine own_go (B := s₁.setTop (mkF m 0 #[.val (.int (0 : Int32)), .val (.int (1 : Int32))] [])) (fun t k => castTop (efoci_0_1 m ) k) ?_
  refine own_go (B := s₁.setTop (mkF m 3 #[.val (.int (0 : Int32)), .val (.int (1 : Int32))] [.null, (.int (1 : Int32)), (.int (0 : Int32))])) (fun t k => ?_) ?_
  · refine XS.iloadN X0.here hx rfl (hb hby d22_0) rfl ?_
    refine XS.iloadN X0.here hx rfl (hb hby d22_1) rfl ?_
    refine XS.aconstNull X0.here hx rfl (hb hby d22_2) ?_
    exact k
  obtain ⟨_, _, ⟨T387, L387, k387, n387⟩, -, X387, ⟨Lc387, hQ387, l387, y387, z387⟩, st387⟩ := Jvm.LawKit.callS X0 hx (y := (⟨"jdk/internal/util/Preconditions", "checkIndex", "(IILjava/util/function/BiFunction;)I"⟩ : MethodName)) hown (mvT hZ (own_w hw 141 rfl)) (mvT hZ (own_w hw 142 rfl)) (mvT hZ (own_w hw 143 rfl)) (mvT hZ (own_w hw 144 rfl)) (by decide) (backOf (W := 0) (pci_0_1 l Z a0 hw []  h0 n0 Z0 ) hZ (own_w hw 144 rfl) (own_w hw 143 rfl) (by decide) (by decide)) (g := (mkF m 3 #[.val (.int (0 : Int32)), .val (.int (1 : Int32))] [.null, (.int (1 : Int32)), (.int (0 : Int32))])) rfl (by rw [hml]; rfl) (argsL := [(.int (0 : Int32)), (.int (1 : Int32)), .null]) (rest := []) (lenOf pd_10 rfl) rfl (by show 2 * 0 + _ ≤ _; exact Nat.le_of_eq rfl) (hb hby d22_3) (fun _ _ => ⟨rfl, e0, (by decide : 0 + 0 ≤ _), (by decide : 0 + 0 ≤ _)⟩)
  dsimp only [Pt.U, Pt.locs, Pt.cells, Pt.slots] at X387 l387 y387 z387 st387 hQ387
  subst l387 y387 z387
  obtain ⟨rfl, Nq387, e387⟩ := hQ387
  have N387 := Fr.app N0 Nq387
  refine own_go (B := T387.setTop (mkF m 6 #[.val (.int (0 : Int32)), .val (.int (1 : Int32))] [(.int (0 : Int32))])) st387 ?_
  obtain ⟨fs, hr, hrun, hended, hW, hsame⟩ := X387.leave (v := some (.int (0 : Int32))) (fun h => by rw [Bd.returns] at h; cases h)
  refine ⟨_, _, ?_, hrun, hended, _, _, rfl, ?_, ⟨_, rfl⟩, hW, hsame.mono (by decide) (by decide)⟩
  · show Steps p.tables e below (T387.setTop (mkF m 6 #[.val (.int (0 : Int32)), .val (.int (1 : Int32))] [(.int (0 : Int32))])) _
    exact retOut X387 hx Bd.returns rfl (Or.inl ⟨rfl, Or.inl rfl, _, rfl⟩) (hb hby d22_6) hr
  · show Qoci_0_1 Z  h0 n0 _ T387.heap _
    rw [e387]
    exact ⟨rfl, N387, rfl⟩
def Qeld_0_1 (Z : State) (li : Addr) (br : Addr) (kb : ClassId) (r0 : Addr) (h0 : Heap) (n0 : Nat) (v : Option Value) (h : Heap) (L : List Loc) : Prop := v = some (.ref r0) ∧ Fr n0 L ∧ h = h0
theorem efeld_0_1 (m : MethodId) (x0 : Addr) : entryFrame m #[(.ref x0), (.int (0 : Int32))] 2 = mkF m 0 #[.val (.ref x0), .val (.int (0 : Int32))] [] := by first | (simp [entryFrame, mkF, argsToLocals, Value.category]; done) | rfl
set_option maxRecDepth 65536 in
set_option maxHeartbeats 40000000 in
theorem eld_0_1 (l : Launch) (Z : State) (a0 : Array Value) (hw : ∀ d ∈ tables_1, d.before a0 Z = true) (ws : List Jvm.Cond) (li : Addr) (br : Addr) (kb : ClassId) (r0 : Addr) (h0 : Heap) (n0 : Nat) (Z0 : n0 ≤ h0.size) (P0 : Fld Z h0 li "java/util/ArrayList" "size" "I" (.int (1 : Int32))) (P1 : Fld Z h0 li "java/util/ArrayList" "elementData" "[Ljava/lang/Object;" (.ref br)) (P2 : Arv Z h0 br kb (.object "java/lang/Object") (10 : Int32) [(.ref r0), .null, .null, .null, .null, .null, .null, .null, .null, .null] .null) :
    MetFree l (⟨"java/util/ArrayList", "elementData", "(I)Ljava/lang/Object;"⟩ : MethodName) (head1 (Jvm.Cond.code (⟨"java/util/ArrayList", "elementData", "(I)Ljava/lang/Object;"⟩ : MethodName) jdk_38_method_18_code 2 (some (.object "java/lang/Object")) :: ws) ({ frames := 0, cells := 0, slots := 0, locals := 0 } : Room)) (fun a U => a = #[(.ref li), (.int (0 : Int32))] ∧ Z.Warmed39 U.vm ∧ U.heap = h0) (fun _ _ _ _ _ => True) (fun _ U o U' => ∃ v L, o = .returned v ∧ Qeld_0_1 Z li br kb r0 h0 n0 v U'.heap L ∧ FrameEnd U o U' L ({ frames := 0, cells := 0, slots := 0, locals := 0 } : Room).cells ({ frames := 0, cells := 0, slots := 0, locals := 0 } : Room).slots) := by
  refine MetFree.of_bodySF (plainFor_of_name pn_5) hisR ?_
  intro p e s m args below meth c s₁ Bd hml0 hP hK
  obtain ⟨rfl, hZ, hh⟩ := hP
  have hx := Bd.exec
  have hby := Bd.bytes
  have hml : c.maxLocals = 2 := hml0
  have hown : s.vm.findClass "java/util/ArrayList" = some m.cls := findClass_of_methodNamed Bd.named
  have hnm := (name_of_methodNamed Bd.named Bd.method).1
  have X0 : Stand p l e ({ frames := 0, cells := 0, slots := 0, locals := 0 } : Room) s m #[(.ref li), (.int (0 : Int32))] below meth c s₁ [] 0 0 := Stand.of_body Bd
  have e0 : s₁.heap = h0 := by rw [← hh, Bd.state]; rfl
  have N0 := Fr.nil n0
  have K0 : Keep h0 h0 [] := Keep.refl h0 _
  refine own_go (B := s₁.setTop (mkF m 0 #[.val (.ref li), .val (.int (0 : Int32))] [])) (fun t k => castTop (efeld_0_1 m li) k) ?_
  refine own_go (B := s₁.setTop (mkF m 1 #[.val (.ref li), .val (.int (0 : Int32))] [(.ref li)])) (fun t k => ?_) ?_
  · refine XS.aloadN X0.here hx rfl (hb hby d24_0) rfl rfl ?_
    exact k
  obtain ⟨T388, X388, e388, st388⟩ := getF X0 hx hZ hown (host := "") (Or.inl (own_w hw 59 rfl)) Via.refl e0 P1 (g := (mkF m 1 #[.val (.ref li), .val (.int (0 : Int32))] [(.ref li)])) rfl rfl (hb hby d24_1)
  refine own_go st388 ?_
  refine own_go (B := T388.setTop (mkF m 5 #[.val (.ref li), .val (.int (0 : Int32))] [(.int (0 : Int32)), (.ref br)])) (fun t k => ?_) ?_
  · refine XS.iloadN X388.here hx rfl (hb hby d24_4) rfl ?_
    exact k
  obtain ⟨cl389, Ar389, q389, S389, M389, Ha389, G389⟩ := id P2
  have hin389 : ¬ ((0 : Int32) < 0 ∨ cl389.slots.size ≤ ((0 : Int32)).toNatClampNeg) := inb_of S389 ⟨by decide, by decide⟩
  refine own_go (X388.aaload hx (j := (0 : Int32)) (v := (.ref r0)) (by rw [e388]; exact Ar389.1) (State.isArrayOf_alike hZ.alike Ar389.2.1) rfl Ar389.2.2 hin389 (Has.at Ha389 hin389 rfl) (g := (mkF m 5 #[.val (.ref li), .val (.int (0 : Int32))] [(.int (0 : Int32)), (.ref br)])) rfl rfl (hb hby d24_5)) ?_
  obtain ⟨fs, hr, hrun, hended, hW, hsame⟩ := X388.leave (v := some (.ref r0)) (fun h => by rw [Bd.returns] at h; cases h)
  refine ⟨_, _, ?_, hrun, hended, _, _, rfl, ?_, ⟨_, rfl⟩, hW, hsame.mono (by decide) (by decide)⟩
  · show Steps p.tables e below (T388.setTop (mkF m 6 #[.val (.ref li), .val (.int (0 : Int32))] [(.ref r0)])) _
    exact retOut X388 hx Bd.returns rfl (Or.inr (Or.inr (Or.inr (Or.inr ⟨rfl, rfl, rfl⟩)))) (hb hby d24_6) hr
  · show Qeld_0_1 Z li br kb r0 h0 n0 _ T388.heap _
    rw [e388]
    exact ⟨rfl, N0, rfl⟩
def Qget_0_1 (Z : State) (li : Addr) (br : Addr) (kb : ClassId) (r0 : Addr) (h0 : Heap) (n0 : Nat) (v : Option Value) (h : Heap) (L : List Loc) : Prop := v = some (.ref r0) ∧ Fr n0 L ∧ h = h0
theorem efget_0_1 (m : MethodId) (x0 : Addr) : entryFrame m #[(.ref x0), (.int (0 : Int32))] 2 = mkF m 0 #[.val (.ref x0), .val (.int (0 : Int32))] [] := by first | (simp [entryFrame, mkF, argsToLocals, Value.category]; done) | rfl
set_option maxRecDepth 65536 in
set_option maxHeartbeats 40000000 in
theorem get_0_1 (l : Launch) (Z : State) (a0 : Array Value) (hw : ∀ d ∈ tables_1, d.before a0 Z = true) (ws : List Jvm.Cond) (li : Addr) (br : Addr) (kb : ClassId) (r0 : Addr) (h0 : Heap) (n0 : Nat) (Z0 : n0 ≤ h0.size) (P0 : Exa Z h0 li "java/util/ArrayList") (P1 : Fld Z h0 li "java/util/ArrayList" "size" "I" (.int (1 : Int32))) (P2 : Fld Z h0 li "java/util/ArrayList" "elementData" "[Ljava/lang/Object;" (.ref br)) (P3 : Arv Z h0 br kb (.object "java/lang/Object") (10 : Int32) [(.ref r0), .null, .null, .null, .null, .null, .null, .null, .null, .null] .null) :
    MetFree l (⟨"java/util/ArrayList", "get", "(I)Ljava/lang/Object;"⟩ : MethodName) (head1 (Jvm.Cond.code (⟨"java/util/ArrayList", "get", "(I)Ljava/lang/Object;"⟩ : MethodName) jdk_38_method_20_code 2 (some (.object "java/lang/Object")) :: ws) ({ frames := 2, cells := 0, slots := 0, locals := 27 } : Room)) (fun a U => a = #[(.ref li), (.int (0 : Int32))] ∧ Z.Warmed39 U.vm ∧ U.heap = h0) (fun _ _ _ _ _ => True) (fun _ U o U' => ∃ v L, o = .returned v ∧ Qget_0_1 Z li br kb r0 h0 n0 v U'.heap L ∧ FrameEnd U o U' L ({ frames := 2, cells := 0, slots := 0, locals := 27 } : Room).cells ({ frames := 2, cells := 0, slots := 0, locals := 27 } : Room).slots) := by
  refine MetFree.of_bodySF (plainFor_of_name pn_5) hisR ?_
  intro p e s m args below meth c s₁ Bd hml0 hP hK
  obtain ⟨rfl, hZ, hh⟩ := hP
  have hx := Bd.exec
  have hby := Bd.bytes
  have hml : c.maxLocals = 2 := hml0
  have hown : s.vm.findClass "java/util/ArrayList" = some m.cls := findClass_of_methodNamed Bd.named
  have hnm := (name_of_methodNamed Bd.named Bd.method).1
  have X0 : Stand p l e ({ frames := 2, cells := 0, slots := 0, locals := 27 } : Room) s m #[(.ref li), (.int (0 : Int32))] below meth c s₁ [] 0 0 := Stand.of_body Bd
  have e0 : s₁.heap = h0 := by rw [← hh, Bd.state]; rfl
  have N0 := Fr.nil n0
  have K0 : Keep h0 h0 [] := Keep.refl h0 _
  refine own_go (B := s₁.setTop (mkF m 0 #[.val (.ref li), .val (.int (0 : Int32))] [])) (fun t k => castTop (efget_0_1 m li) k) ?_
  refine own_go (B := s₁.setTop (mkF m 2 #[.val (.ref li), .val (.int (0 : Int32))] [(.ref li), (.int (0 : Int32))])) (fun t k => ?_) ?_
  · refine XS.iloadN X0.here hx rfl (hb hby d21_0) rfl ?_
    refine XS.aloadN X0.here hx rfl (hb hby d21_1) rfl rfl ?_
    exact k
  obtain ⟨T390, X390, e390, st390⟩ := getF X0 hx hZ hown (host := "") (Or.inl (own_w hw 94 rfl)) Via.refl e0 P1 (g := (mkF m 2 #[.val (.ref li), .val (.int (0 : Int32))] [(.ref li), (.int (0 : Int32))])) rfl rfl (hb hby d21_2)
  refine own_go st390 ?_
  obtain ⟨_, _, ⟨T391, L391, k391, n391⟩, -, X391, ⟨Lc391, hQ391, l391, y391, z391⟩, st391⟩ := Jvm.LawKit.callS X390 hx (y := (⟨"java/util/Objects", "checkIndex", "(II)I"⟩ : MethodName)) hown (mvT hZ (own_w hw 137 rfl)) (mvT hZ (own_w hw 138 rfl)) (mvT hZ (own_w hw 139 rfl)) (mvT hZ (own_w hw 140 rfl)) (by decide) (backOf (W := 0) (oci_0_1 l Z a0 hw []  h0 n0 Z0 ) hZ (own_w hw 140 rfl) (own_w hw 139 rfl) (by decide) (by decide)) (g := (mkF m 5 #[.val (.ref li), .val (.int (0 : Int32))] [(.int (1 : Int32)), (.int (0 : Int32))])) rfl (by rw [hml]; rfl) (argsL := [(.int (0 : Int32)), (.int (1 : Int32))]) (rest := []) (lenOf pd_6 rfl) rfl (by show 2 * 0 + _ ≤ _; exact Nat.le_of_eq rfl) (hb hby d21_5) (fun _ _ => ⟨rfl, e390, (by decide : 0 + 0 ≤ _), (by decide : 0 + 0 ≤ _)⟩)
  dsimp only [Pt.U, Pt.locs, Pt.cells, Pt.slots] at X391 l391 y391 z391 st391 hQ391
  subst l391 y391 z391
  obtain ⟨rfl, Nq391, e391⟩ := hQ391
  have N391 := Fr.app N0 Nq391
  refine own_go (B := T391.setTop (mkF m 8 #[.val (.ref li), .val (.int (0 : Int32))] [(.int (0 : Int32))])) st391 ?_
  refine own_go (B := T391.setTop (mkF m 11 #[.val (.ref li), .val (.int (0 : Int32))] [(.int (0 : Int32)), (.ref li)])) (fun t k => ?_) ?_
  · refine XS.pop X391.here hx rfl (hb hby d21_8) rfl rfl ?_
    refine XS.aloadN X391.here hx rfl (hb hby d21_9) rfl rfl ?_
    refine XS.iloadN X391.here hx rfl (hb hby d21_10) rfl ?_
    exact k
  obtain ⟨cq392, kq392, q392a, q392b, q392c⟩ := isOf hZ e391 P0
  obtain ⟨_, _, ⟨T392, L392, k392, n392⟩, -, X392, ⟨Lc392, hQ392, l392, y392, z392⟩, st392⟩ := X391.virtualBack hx (y := (⟨"java/util/ArrayList", "elementData", "(I)Ljava/lang/Object;"⟩ : MethodName)) (z := (⟨"java/util/ArrayList", "elementData", "(I)Ljava/lang/Object;"⟩ : MethodName)) hown (mvT hZ (own_w hw 145 rfl)) (mvT hZ (own_w hw 146 rfl)) (notFace_of_selects (args := #[]) (mvT hZ (own_w hw 148 rfl))) (mvT hZ (own_w hw 148 rfl)) (mvT hZ (own_w hw 147 rfl)) (by decide) (backOf (W := 0) (eld_0_1 l Z a0 hw [] li br kb r0 h0 n0 Z0 P1 P2 P3) hZ (own_w hw 149 rfl) (own_w hw 39 rfl) (by decide) (by decide)) q392a q392c (g := (mkF m 11 #[.val (.ref li), .val (.int (0 : Int32))] [(.int (0 : Int32)), (.ref li)])) rfl (by rw [hml]; rfl) (Steps.refl _) (argsL := [(.int (0 : Int32))]) (rest := []) (lenOf pd_11 rfl) rfl (by show 2 * 0 + _ ≤ _; exact Nat.le_of_eq rfl) (hb hby d21_11) (fun _ _ => ⟨rfl, e391, (by decide : 0 + 0 ≤ _), (by decide : 0 + 0 ≤ _)⟩)
  dsimp only [Pt.U, Pt.locs, Pt.cells, Pt.slots] at X392 l392 y392 z392 st392 hQ392
  subst l392 y392 z392
  obtain ⟨rfl, Nq392, e392⟩ := hQ392
  have N392 := Fr.app N391 Nq392
  refine own_go (B := T392.setTop (mkF m 14 #[.val (.ref li), .val (.int (0 : Int32))] [(.ref r0)])) (fun t k => st392.trans k) ?_
  obtain ⟨fs, hr, hrun, hended, hW, hsame⟩ := X392.leave (v := some (.ref r0)) (fun h => by rw [Bd.returns] at h; cases h)
  refine ⟨_, _, ?_, hrun, hended, _, _, rfl, ?_, ⟨_, rfl⟩, hW, hsame.mono (by decide) (by decide)⟩
  · show Steps p.tables e below (T392.setTop (mkF m 14 #[.val (.ref li), .val (.int (0 : Int32))] [(.ref r0)])) _
    exact retOut X392 hx Bd.returns rfl (Or.inr (Or.inr (Or.inr (Or.inr ⟨rfl, rfl, rfl⟩)))) (hb hby d21_14) hr
  · show Qget_0_1 Z li br kb r0 h0 n0 _ T392.heap _
    rw [e392]
    exact ⟨rfl, N392, rfl⟩
def Qpci_0_2 (Z : State)  (h0 : Heap) (n0 : Nat) (v : Option Value) (h : Heap) (L : List Loc) : Prop := v = some (.int (0 : Int32)) ∧ Fr n0 L ∧ h = h0
theorem efpci_0_2 (m : MethodId)  : entryFrame m #[(.int (0 : Int32)), (.int (2 : Int32)), .null] 3 = mkF m 0 #[.val (.int (0 : Int32)), .val (.int (2 : Int32)), .val .null] [] := by first | (simp [entryFrame, mkF, argsToLocals, Value.category]; done) | rfl
set_option maxRecDepth 65536 in
set_option maxHeartbeats 40000000 in
theorem pci_0_2 (l : Launch) (Z : State) (a0 : Array Value) (hw : ∀ d ∈ tables_1, d.before a0 Z = true) (ws : List Jvm.Cond)  (h0 : Heap) (n0 : Nat) (Z0 : n0 ≤ h0.size)  :
    MetFree l (⟨"jdk/internal/util/Preconditions", "checkIndex", "(IILjava/util/function/BiFunction;)I"⟩ : MethodName) (head1 (Jvm.Cond.code (⟨"jdk/internal/util/Preconditions", "checkIndex", "(IILjava/util/function/BiFunction;)I"⟩ : MethodName) jdk_41_method_11_code 3 (some .int) :: ws) ({ frames := 0, cells := 0, slots := 0, locals := 0 } : Room)) (fun a U => a = #[(.int (0 : Int32)), (.int (2 : Int32)), .null] ∧ Z.Warmed39 U.vm ∧ U.heap = h0) (fun _ _ _ _ _ => True) (fun _ U o U' => ∃ v L, o = .returned v ∧ Qpci_0_2 Z  h0 n0 v U'.heap L ∧ FrameEnd U o U' L ({ frames := 0, cells := 0, slots := 0, locals := 0 } : Room).cells ({ frames := 0, cells := 0, slots := 0, locals := 0 } : Room).slots) := by
  refine MetFree.of_bodySF (plainFor_of_name pn_6) hisR ?_
  intro p e s m args below meth c s₁ Bd hml0 hP hK
  obtain ⟨rfl, hZ, hh⟩ := hP
  have hx := Bd.exec
  have hby := Bd.bytes
  have hml : c.maxLocals = 3 := hml0
  have hown : s.vm.findClass "jdk/internal/util/Preconditions" = some m.cls := findClass_of_methodNamed Bd.named
  have hnm := (name_of_methodNamed Bd.named Bd.method).1
  have X0 : Stand p l e ({ frames := 0, cells := 0, slots := 0, locals := 0 } : Room) s m #[(.int (0 : Int32)), (.int (2 : Int32)), .null] below meth c s₁ [] 0 0 := Stand.of_body Bd
  have e0 : s₁.heap = h0 := by rw [← hh, Bd.state]; rfl
  have N0 := Fr.nil n0
  have K0 : Keep h0 h0 [] := Keep.refl h0 _
  refine own_go (B := s₁.setTop (mkF m 0 #[.val (.int (0 : Int32)), .val (.int (2 : Int32)), .val .null] [])) (fun t k => castTop (efpci_0_2 m ) k) ?_
  refine own_go (B := s₁.setTop (mkF m 17 #[.val (.int (0 : Int32)), .val (.int (2 : Int32)), .val .null] [(.int (0 : Int32))])) (fun t k => ?_) ?_
  · refine XS.iloadN X0.here hx rfl (hb hby d23_0) rfl ?_
    refine XS.ifNo X0.here hx rfl (hb hby d23_1) rfl ((if0 _ _).trans (flt Int32.lt_irrefl).1) ?_
    refine XS.iloadN X0.here hx rfl (hb hby d23_4) rfl ?_
    refine XS.iloadN X0.here hx rfl (hb hby d23_5) rfl ?_
    refine XS.icmpYes X0.here hx rfl (pc0 := 6) (pc' := 16) rfl (hb hby d23_6) rfl (tlt (by decide : ((0 : Int32) < (2 : Int32)))).1 (by decide) (by decide) ?_
    refine XS.iloadN X0.here hx rfl (hb hby d23_16) rfl ?_
    exact k
  obtain ⟨fs, hr, hrun, hended, hW, hsame⟩ := X0.leave (v := some (.int (0 : Int32))) (fun h => by rw [Bd.returns] at h; cases h)
  refine ⟨_, _, ?_, hrun, hended, _, _, rfl, ?_, ⟨_, rfl⟩, hW, hsame.mono (by decide) (by decide)⟩
  · show Steps p.tables e below (s₁.setTop (mkF m 17 #[.val (.int (0 : Int32)), .val (.int (2 : Int32)), .val .null] [(.int (0 : Int32))])) _
    exact retOut X0 hx Bd.returns rfl (Or.inl ⟨rfl, Or.inl rfl, _, rfl⟩) (hb hby d23_17) hr
  · show Qpci_0_2 Z  h0 n0 _ s₁.heap _
    rw [e0]
    exact ⟨rfl, N0, rfl⟩
def Qoci_0_2 (Z : State)  (h0 : Heap) (n0 : Nat) (v : Option Value) (h : Heap) (L : List Loc) : Prop := v = some (.int (0 : Int32)) ∧ Fr n0 L ∧ h = h0
theorem efoci_0_2 (m : MethodId)  : entryFrame m #[(.int (0 : Int32)), (.int (2 : Int32))] 2 = mkF m 0 #[.val (.int (0 : Int32)), .val (.int (2 : Int32))] [] := by first | (simp [entryFrame, mkF, argsToLocals, Value.category]; done) | rfl
set_option maxRecDepth 65536 in
set_option maxHeartbeats 40000000 in
theorem oci_0_2 (l : Launch) (Z : State) (a0 : Array Value) (hw : ∀ d ∈ tables_1, d.before a0 Z = true) (ws : List Jvm.Cond)  (h0 : Heap) (n0 : Nat) (Z0 : n0 ≤ h0.size)  :
    MetFree l (⟨"java/util/Objects", "checkIndex", "(II)I"⟩ : MethodName) (head1 (Jvm.Cond.code (⟨"java/util/Objects", "checkIndex", "(II)I"⟩ : MethodName) jdk_31_method_17_code 2 (some .int) :: ws) ({ frames := 1, cells := 0, slots := 0, locals := 14 } : Room)) (fun a U => a = #[(.int (0 : Int32)), (.int (2 : Int32))] ∧ Z.Warmed39 U.vm ∧ U.heap = h0) (fun _ _ _ _ _ => True) (fun _ U o U' => ∃ v L, o = .returned v ∧ Qoci_0_2 Z  h0 n0 v U'.heap L ∧ FrameEnd U o U' L ({ frames := 1, cells := 0, slots := 0, locals := 14 } : Room).cells ({ frames := 1, cells := 0, slots := 0, locals := 14 } : Room).slots) := by
  refine MetFree.of_bodySF (plainFor_of_name pn_7) hisR ?_
  intro p e s m args below meth c s₁ Bd hml0 hP hK
  obtain ⟨rfl, hZ, hh⟩ := hP
  have hx := Bd.exec
  have hby := Bd.bytes
  have hml : c.maxLocals = 2 := hml0
  have hown : s.vm.findClass "java/util/Objects" = some m.cls := findClass_of_methodNamed Bd.named
  have hnm := (name_of_methodNamed Bd.named Bd.method).1
  have X0 : Stand p l e ({ frames := 1, cells := 0, slots := 0, locals := 14 } : Room) s m #[(.int (0 : Int32)), (.int (2 : Int32))] below meth c s₁ [] 0 0 := Stand.of_body Bd
  have e0 : s₁.heap = h0 := by rw [← hh, Bd.state]; rfl
  have N0 := Fr.nil n0
  have K0 : Keep h0 h0 [] := Keep.refl h0 _
  refine own_go (B := s₁.setTop (mkF m 0 #[.val (.int (0 : Int32)), .val (.int (2 : Int32))] [])) (fun t k => castTop (efoci_0_2 m ) k) ?_
  refine own_go (B := s₁.setTop (mkF m 3 #[.val (.int (0 : Int32)), .val (.int (2 : Int32))] [.null, (.int (2 : Int32)), (.int (0 : Int32))])) (fun t k => ?_) ?_
  · refine XS.iloadN X0.here hx rfl (hb hby d22_0) rfl ?_
    refine XS.iloadN X0.here hx rfl (hb hby d22_1) rfl ?_
    refine XS.aconstNull X0.here hx rfl (hb hby d22_2) ?_
    exact k
  obtain ⟨_, _, ⟨T395, L395, k395, n395⟩, -, X395, ⟨Lc395, hQ395, l395, y395, z395⟩, st395⟩ := Jvm.LawKit.callS X0 hx (y := (⟨"jdk/internal/util/Preconditions", "checkIndex", "(IILjava/util/function/BiFunction;)I"⟩ : MethodName)) hown (mvT hZ (own_w hw 141 rfl)) (mvT hZ (own_w hw 142 rfl)) (mvT hZ (own_w hw 143 rfl)) (mvT hZ (own_w hw 144 rfl)) (by decide) (backOf (W := 0) (pci_0_2 l Z a0 hw []  h0 n0 Z0 ) hZ (own_w hw 144 rfl) (own_w hw 143 rfl) (by decide) (by decide)) (g := (mkF m 3 #[.val (.int (0 : Int32)), .val (.int (2 : Int32))] [.null, (.int (2 : Int32)), (.int (0 : Int32))])) rfl (by rw [hml]; rfl) (argsL := [(.int (0 : Int32)), (.int (2 : Int32)), .null]) (rest := []) (lenOf pd_10 rfl) rfl (by show 2 * 0 + _ ≤ _; exact Nat.le_of_eq rfl) (hb hby d22_3) (fun _ _ => ⟨rfl, e0, (by decide : 0 + 0 ≤ _), (by decide : 0 + 0 ≤ _)⟩)
  dsimp only [Pt.U, Pt.locs, Pt.cells, Pt.slots] at X395 l395 y395 z395 st395 hQ395
  subst l395 y395 z395
  obtain ⟨rfl, Nq395, e395⟩ := hQ395
  have N395 := Fr.app N0 Nq395
  refine own_go (B := T395.setTop (mkF m 6 #[.val (.int (0 : Int32)), .val (.int (2 : Int32))] [(.int (0 : Int32))])) st395 ?_
  obtain ⟨fs, hr, hrun, hended, hW, hsame⟩ := X395.leave (v := some (.int (0 : Int32))) (fun h => by rw [Bd.returns] at h; cases h)
  refine ⟨_, _, ?_, hrun, hended, _, _, rfl, ?_, ⟨_, rfl⟩, hW, hsame.mono (by decide) (by decide)⟩
  · show Steps p.tables e below (T395.setTop (mkF m 6 #[.val (.int (0 : Int32)), .val (.int (2 : Int32))] [(.int (0 : Int32))])) _
    exact retOut X395 hx Bd.returns rfl (Or.inl ⟨rfl, Or.inl rfl, _, rfl⟩) (hb hby d22_6) hr
  · show Qoci_0_2 Z  h0 n0 _ T395.heap _
    rw [e395]
    exact ⟨rfl, N395, rfl⟩
def Qeld_0_2 (Z : State) (li : Addr) (br : Addr) (kb : ClassId) (r0 : Addr) (r1 : Addr) (h0 : Heap) (n0 : Nat) (v : Option Value) (h : Heap) (L : List Loc) : Prop := v = some (.ref r0) ∧ Fr n0 L ∧ h = h0
theorem efeld_0_2 (m : MethodId) (x0 : Addr) : entryFrame m #[(.ref x0), (.int (0 : Int32))] 2 = mkF m 0 #[.val (.ref x0), .val (.int (0 : Int32))] [] := by first | (simp [entryFrame, mkF, argsToLocals, Value.category]; done) | rfl
set_option maxRecDepth 65536 in
set_option maxHeartbeats 40000000 in
theorem eld_0_2 (l : Launch) (Z : State) (a0 : Array Value) (hw : ∀ d ∈ tables_1, d.before a0 Z = true) (ws : List Jvm.Cond) (li : Addr) (br : Addr) (kb : ClassId) (r0 : Addr) (r1 : Addr) (h0 : Heap) (n0 : Nat) (Z0 : n0 ≤ h0.size) (P0 : Fld Z h0 li "java/util/ArrayList" "size" "I" (.int (2 : Int32))) (P1 : Fld Z h0 li "java/util/ArrayList" "elementData" "[Ljava/lang/Object;" (.ref br)) (P2 : Arv Z h0 br kb (.object "java/lang/Object") (10 : Int32) [(.ref r0), (.ref r1), .null, .null, .null, .null, .null, .null, .null, .null] .null) :
    MetFree l (⟨"java/util/ArrayList", "elementData", "(I)Ljava/lang/Object;"⟩ : MethodName) (head1 (Jvm.Cond.code (⟨"java/util/ArrayList", "elementData", "(I)Ljava/lang/Object;"⟩ : MethodName) jdk_38_method_18_code 2 (some (.object "java/lang/Object")) :: ws) ({ frames := 0, cells := 0, slots := 0, locals := 0 } : Room)) (fun a U => a = #[(.ref li), (.int (0 : Int32))] ∧ Z.Warmed39 U.vm ∧ U.heap = h0) (fun _ _ _ _ _ => True) (fun _ U o U' => ∃ v L, o = .returned v ∧ Qeld_0_2 Z li br kb r0 r1 h0 n0 v U'.heap L ∧ FrameEnd U o U' L ({ frames := 0, cells := 0, slots := 0, locals := 0 } : Room).cells ({ frames := 0, cells := 0, slots := 0, locals := 0 } : Room).slots) := by
  refine MetFree.of_bodySF (plainFor_of_name pn_5) hisR ?_
  intro p e s m args below meth c s₁ Bd hml0 hP hK
  obtain ⟨rfl, hZ, hh⟩ := hP
  have hx := Bd.exec
  have hby := Bd.bytes
  have hml : c.maxLocals = 2 := hml0
  have hown : s.vm.findClass "java/util/ArrayList" = some m.cls := findClass_of_methodNamed Bd.named
  have hnm := (name_of_methodNamed Bd.named Bd.method).1
  have X0 : Stand p l e ({ frames := 0, cells := 0, slots := 0, locals := 0 } : Room) s m #[(.ref li), (.int (0 : Int32))] below meth c s₁ [] 0 0 := Stand.of_body Bd
  have e0 : s₁.heap = h0 := by rw [← hh, Bd.state]; rfl
  have N0 := Fr.nil n0
  have K0 : Keep h0 h0 [] := Keep.refl h0 _
  refine own_go (B := s₁.setTop (mkF m 0 #[.val (.ref li), .val (.int (0 : Int32))] [])) (fun t k => castTop (efeld_0_2 m li) k) ?_
  refine own_go (B := s₁.setTop (mkF m 1 #[.val (.ref li), .val (.int (0 : Int32))] [(.ref li)])) (fun t k => ?_) ?_
  · refine XS.aloadN X0.here hx rfl (hb hby d24_0) rfl rfl ?_
    exact k
  obtain ⟨T396, X396, e396, st396⟩ := getF X0 hx hZ hown (host := "") (Or.inl (own_w hw 59 rfl)) Via.refl e0 P1 (g := (mkF m 1 #[.val (.ref li), .val (.int (0 : Int32))] [(.ref li)])) rfl rfl (hb hby d24_1)
  refine own_go st396 ?_
  refine own_go (B := T396.setTop (mkF m 5 #[.val (.ref li), .val (.int (0 : Int32))] [(.int (0 : Int32)), (.ref br)])) (fun t k => ?_) ?_
  · refine XS.iloadN X396.here hx rfl (hb hby d24_4) rfl ?_
    exact k
  obtain ⟨cl397, Ar397, q397, S397, M397, Ha397, G397⟩ := id P2
  have hin397 : ¬ ((0 : Int32) < 0 ∨ cl397.slots.size ≤ ((0 : Int32)).toNatClampNeg) := inb_of S397 ⟨by decide, by decide⟩
  refine own_go (X396.aaload hx (j := (0 : Int32)) (v := (.ref r0)) (by rw [e396]; exact Ar397.1) (State.isArrayOf_alike hZ.alike Ar397.2.1) rfl Ar397.2.2 hin397 (Has.at Ha397 hin397 rfl) (g := (mkF m 5 #[.val (.ref li), .val (.int (0 : Int32))] [(.int (0 : Int32)), (.ref br)])) rfl rfl (hb hby d24_5)) ?_
  obtain ⟨fs, hr, hrun, hended, hW, hsame⟩ := X396.leave (v := some (.ref r0)) (fun h => by rw [Bd.returns] at h; cases h)
  refine ⟨_, _, ?_, hrun, hended, _, _, rfl, ?_, ⟨_, rfl⟩, hW, hsame.mono (by decide) (by decide)⟩
  · show Steps p.tables e below (T396.setTop (mkF m 6 #[.val (.ref li), .val (.int (0 : Int32))] [(.ref r0)])) _
    exact retOut X396 hx Bd.returns rfl (Or.inr (Or.inr (Or.inr (Or.inr ⟨rfl, rfl, rfl⟩)))) (hb hby d24_6) hr
  · show Qeld_0_2 Z li br kb r0 r1 h0 n0 _ T396.heap _
    rw [e396]
    exact ⟨rfl, N0, rfl⟩
def Qget_0_2 (Z : State) (li : Addr) (br : Addr) (kb : ClassId) (r0 : Addr) (r1 : Addr) (h0 : Heap) (n0 : Nat) (v : Option Value) (h : Heap) (L : List Loc) : Prop := v = some (.ref r0) ∧ Fr n0 L ∧ h = h0
theorem efget_0_2 (m : MethodId) (x0 : Addr) : entryFrame m #[(.ref x0), (.int (0 : Int32))] 2 = mkF m 0 #[.val (.ref x0), .val (.int (0 : Int32))] [] := by first | (simp [entryFrame, mkF, argsToLocals, Value.category]; done) | rfl
set_option maxRecDepth 65536 in
set_option maxHeartbeats 40000000 in
theorem get_0_2 (l : Launch) (Z : State) (a0 : Array Value) (hw : ∀ d ∈ tables_1, d.before a0 Z = true) (ws : List Jvm.Cond) (li : Addr) (br : Addr) (kb : ClassId) (r0 : Addr) (r1 : Addr) (h0 : Heap) (n0 : Nat) (Z0 : n0 ≤ h0.size) (P0 : Exa Z h0 li "java/util/ArrayList") (P1 : Fld Z h0 li "java/util/ArrayList" "size" "I" (.int (2 : Int32))) (P2 : Fld Z h0 li "java/util/ArrayList" "elementData" "[Ljava/lang/Object;" (.ref br)) (P3 : Arv Z h0 br kb (.object "java/lang/Object") (10 : Int32) [(.ref r0), (.ref r1), .null, .null, .null, .null, .null, .null, .null, .null] .null) :
    MetFree l (⟨"java/util/ArrayList", "get", "(I)Ljava/lang/Object;"⟩ : MethodName) (head1 (Jvm.Cond.code (⟨"java/util/ArrayList", "get", "(I)Ljava/lang/Object;"⟩ : MethodName) jdk_38_method_20_code 2 (some (.object "java/lang/Object")) :: ws) ({ frames := 2, cells := 0, slots := 0, locals := 27 } : Room)) (fun a U => a = #[(.ref li), (.int (0 : Int32))] ∧ Z.Warmed39 U.vm ∧ U.heap = h0) (fun _ _ _ _ _ => True) (fun _ U o U' => ∃ v L, o = .returned v ∧ Qget_0_2 Z li br kb r0 r1 h0 n0 v U'.heap L ∧ FrameEnd U o U' L ({ frames := 2, cells := 0, slots := 0, locals := 27 } : Room).cells ({ frames := 2, cells := 0, slots := 0, locals := 27 } : Room).slots) := by
  refine MetFree.of_bodySF (plainFor_of_name pn_5) hisR ?_
  intro p e s m args below meth c s₁ Bd hml0 hP hK
  obtain ⟨rfl, hZ, hh⟩ := hP
  have hx := Bd.exec
  have hby := Bd.bytes
  have hml : c.maxLocals = 2 := hml0
  have hown : s.vm.findClass "java/util/ArrayList" = some m.cls := findClass_of_methodNamed Bd.named
  have hnm := (name_of_methodNamed Bd.named Bd.method).1
  have X0 : Stand p l e ({ frames := 2, cells := 0, slots := 0, locals := 27 } : Room) s m #[(.ref li), (.int (0 : Int32))] below meth c s₁ [] 0 0 := Stand.of_body Bd
  have e0 : s₁.heap = h0 := by rw [← hh, Bd.state]; rfl
  have N0 := Fr.nil n0
  have K0 : Keep h0 h0 [] := Keep.refl h0 _
  refine own_go (B := s₁.setTop (mkF m 0 #[.val (.ref li), .val (.int (0 : Int32))] [])) (fun t k => castTop (efget_0_2 m li) k) ?_
  refine own_go (B := s₁.setTop (mkF m 2 #[.val (.ref li), .val (.int (0 : Int32))] [(.ref li), (.int (0 : Int32))])) (fun t k => ?_) ?_
  · refine XS.iloadN X0.here hx rfl (hb hby d21_0) rfl ?_
    refine XS.aloadN X0.here hx rfl (hb hby d21_1) rfl rfl ?_
    exact k
  obtain ⟨T398, X398, e398, st398⟩ := getF X0 hx hZ hown (host := "") (Or.inl (own_w hw 94 rfl)) Via.refl e0 P1 (g := (mkF m 2 #[.val (.ref li), .val (.int (0 : Int32))] [(.ref li), (.int (0 : Int32))])) rfl rfl (hb hby d21_2)
  refine own_go st398 ?_
  obtain ⟨_, _, ⟨T399, L399, k399, n399⟩, -, X399, ⟨Lc399, hQ399, l399, y399, z399⟩, st399⟩ := Jvm.LawKit.callS X398 hx (y := (⟨"java/util/Objects", "checkIndex", "(II)I"⟩ : MethodName)) hown (mvT hZ (own_w hw 137 rfl)) (mvT hZ (own_w hw 138 rfl)) (mvT hZ (own_w hw 139 rfl)) (mvT hZ (own_w hw 140 rfl)) (by decide) (backOf (W := 0) (oci_0_2 l Z a0 hw []  h0 n0 Z0 ) hZ (own_w hw 140 rfl) (own_w hw 139 rfl) (by decide) (by decide)) (g := (mkF m 5 #[.val (.ref li), .val (.int (0 : Int32))] [(.int (2 : Int32)), (.int (0 : Int32))])) rfl (by rw [hml]; rfl) (argsL := [(.int (0 : Int32)), (.int (2 : Int32))]) (rest := []) (lenOf pd_6 rfl) rfl (by show 2 * 0 + _ ≤ _; exact Nat.le_of_eq rfl) (hb hby d21_5) (fun _ _ => ⟨rfl, e398, (by decide : 0 + 0 ≤ _), (by decide : 0 + 0 ≤ _)⟩)
  dsimp only [Pt.U, Pt.locs, Pt.cells, Pt.slots] at X399 l399 y399 z399 st399 hQ399
  subst l399 y399 z399
  obtain ⟨rfl, Nq399, e399⟩ := hQ399
  have N399 := Fr.app N0 Nq399
  refine own_go (B := T399.setTop (mkF m 8 #[.val (.ref li), .val (.int (0 : Int32))] [(.int (0 : Int32))])) st399 ?_
  refine own_go (B := T399.setTop (mkF m 11 #[.val (.ref li), .val (.int (0 : Int32))] [(.int (0 : Int32)), (.ref li)])) (fun t k => ?_) ?_
  · refine XS.pop X399.here hx rfl (hb hby d21_8) rfl rfl ?_
    refine XS.aloadN X399.here hx rfl (hb hby d21_9) rfl rfl ?_
    refine XS.iloadN X399.here hx rfl (hb hby d21_10) rfl ?_
    exact k
  obtain ⟨cq400, kq400, q400a, q400b, q400c⟩ := isOf hZ e399 P0
  obtain ⟨_, _, ⟨T400, L400, k400, n400⟩, -, X400, ⟨Lc400, hQ400, l400, y400, z400⟩, st400⟩ := X399.virtualBack hx (y := (⟨"java/util/ArrayList", "elementData", "(I)Ljava/lang/Object;"⟩ : MethodName)) (z := (⟨"java/util/ArrayList", "elementData", "(I)Ljava/lang/Object;"⟩ : MethodName)) hown (mvT hZ (own_w hw 145 rfl)) (mvT hZ (own_w hw 146 rfl)) (notFace_of_selects (args := #[]) (mvT hZ (own_w hw 148 rfl))) (mvT hZ (own_w hw 148 rfl)) (mvT hZ (own_w hw 147 rfl)) (by decide) (backOf (W := 0) (eld_0_2 l Z a0 hw [] li br kb r0 r1 h0 n0 Z0 P1 P2 P3) hZ (own_w hw 149 rfl) (own_w hw 39 rfl) (by decide) (by decide)) q400a q400c (g := (mkF m 11 #[.val (.ref li), .val (.int (0 : Int32))] [(.int (0 : Int32)), (.ref li)])) rfl (by rw [hml]; rfl) (Steps.refl _) (argsL := [(.int (0 : Int32))]) (rest := []) (lenOf pd_11 rfl) rfl (by show 2 * 0 + _ ≤ _; exact Nat.le_of_eq rfl) (hb hby d21_11) (fun _ _ => ⟨rfl, e399, (by decide : 0 + 0 ≤ _), (by decide : 0 + 0 ≤ _)⟩)
  dsimp only [Pt.U, Pt.locs, Pt.cells, Pt.slots] at X400 l400 y400 z400 st400 hQ400
  subst l400 y400 z400
  obtain ⟨rfl, Nq400, e400⟩ := hQ400
  have N400 := Fr.app N399 Nq400
  refine own_go (B := T400.setTop (mkF m 14 #[.val (.ref li), .val (.int (0 : Int32))] [(.ref r0)])) (fun t k => st400.trans k) ?_
  obtain ⟨fs, hr, hrun, hended, hW, hsame⟩ := X400.leave (v := some (.ref r0)) (fun h => by rw [Bd.returns] at h; cases h)
  refine ⟨_, _, ?_, hrun, hended, _, _, rfl, ?_, ⟨_, rfl⟩, hW, hsame.mono (by decide) (by decide)⟩
  · show Steps p.tables e below (T400.setTop (mkF m 14 #[.val (.ref li), .val (.int (0 : Int32))] [(.ref r0)])) _
    exact retOut X400 hx Bd.returns rfl (Or.inr (Or.inr (Or.inr (Or.inr ⟨rfl, rfl, rfl⟩)))) (hb hby d21_14) hr
  · show Qget_0_2 Z li br kb r0 r1 h0 n0 _ T400.heap _
    rw [e400]
    exact ⟨rfl, N400, rfl⟩
def Qpci_1_2 (Z : State)  (h0 : Heap) (n0 : Nat) (v : Option Value) (h : Heap) (L : List Loc) : Prop := v = some (.int (1 : Int32)) ∧ Fr n0 L ∧ h = h0
theorem efpci_1_2 (m : MethodId)  : entryFrame m #[(.int (1 : Int32)), (.int (2 : Int32)), .null] 3 = mkF m 0 #[.val (.int (1 : Int32)), .val (.int (2 : Int32)), .val .null] [] := by first | (simp [entryFrame, mkF, argsToLocals, Value.category]; done) | rfl
set_option maxRecDepth 65536 in
set_option maxHeartbeats 40000000 in
theorem pci_1_2 (l : Launch) (Z : State) (a0 : Array Value) (hw : ∀ d ∈ tables_1, d.before a0 Z = true) (ws : List Jvm.Cond)  (h0 : Heap) (n0 : Nat) (Z0 : n0 ≤ h0.size)  :
    MetFree l (⟨"jdk/internal/util/Preconditions", "checkIndex", "(IILjava/util/function/BiFunction;)I"⟩ : MethodName) (head1 (Jvm.Cond.code (⟨"jdk/internal/util/Preconditions", "checkIndex", "(IILjava/util/function/BiFunction;)I"⟩ : MethodName) jdk_41_method_11_code 3 (some .int) :: ws) ({ frames := 0, cells := 0, slots := 0, locals := 0 } : Room)) (fun a U => a = #[(.int (1 : Int32)), (.int (2 : Int32)), .null] ∧ Z.Warmed39 U.vm ∧ U.heap = h0) (fun _ _ _ _ _ => True) (fun _ U o U' => ∃ v L, o = .returned v ∧ Qpci_1_2 Z  h0 n0 v U'.heap L ∧ FrameEnd U o U' L ({ frames := 0, cells := 0, slots := 0, locals := 0 } : Room).cells ({ frames := 0, cells := 0, slots := 0, locals := 0 } : Room).slots) := by
  refine MetFree.of_bodySF (plainFor_of_name pn_6) hisR ?_
  intro p e s m args below meth c s₁ Bd hml0 hP hK
  obtain ⟨rfl, hZ, hh⟩ := hP
  have hx := Bd.exec
  have hby := Bd.bytes
  have hml : c.maxLocals = 3 := hml0
  have hown : s.vm.findClass "jdk/internal/util/Preconditions" = some m.cls := findClass_of_methodNamed Bd.named
  have hnm := (name_of_methodNamed Bd.named Bd.method).1
  have X0 : Stand p l e ({ frames := 0, cells := 0, slots := 0, locals := 0 } : Room) s m #[(.int (1 : Int32)), (.int (2 : Int32)), .null] below meth c s₁ [] 0 0 := Stand.of_body Bd
  have e0 : s₁.heap = h0 := by rw [← hh, Bd.state]; rfl
  have N0 := Fr.nil n0
  have K0 : Keep h0 h0 [] := Keep.refl h0 _
  refine own_go (B := s₁.setTop (mkF m 0 #[.val (.int (1 : Int32)), .val (.int (2 : Int32)), .val .null] [])) (fun t k => castTop (efpci_1_2 m ) k) ?_
  refine own_go (B := s₁.setTop (mkF m 17 #[.val (.int (1 : Int32)), .val (.int (2 : Int32)), .val .null] [(.int (1 : Int32))])) (fun t k => ?_) ?_
  · refine XS.iloadN X0.here hx rfl (hb hby d23_0) rfl ?_
    refine XS.ifNo X0.here hx rfl (hb hby d23_1) rfl ((if0 _ _).trans (flt (by decide : ¬ ((1 : Int32) < (0 : Int32)))).1) ?_
    refine XS.iloadN X0.here hx rfl (hb hby d23_4) rfl ?_
    refine XS.iloadN X0.here hx rfl (hb hby d23_5) rfl ?_
    refine XS.icmpYes X0.here hx rfl (pc0 := 6) (pc' := 16) rfl (hb hby d23_6) rfl (tlt (by decide : ((1 : Int32) < (2 : Int32)))).1 (by decide) (by decide) ?_
    refine XS.iloadN X0.here hx rfl (hb hby d23_16) rfl ?_
    exact k
  obtain ⟨fs, hr, hrun, hended, hW, hsame⟩ := X0.leave (v := some (.int (1 : Int32))) (fun h => by rw [Bd.returns] at h; cases h)
  refine ⟨_, _, ?_, hrun, hended, _, _, rfl, ?_, ⟨_, rfl⟩, hW, hsame.mono (by decide) (by decide)⟩
  · show Steps p.tables e below (s₁.setTop (mkF m 17 #[.val (.int (1 : Int32)), .val (.int (2 : Int32)), .val .null] [(.int (1 : Int32))])) _
    exact retOut X0 hx Bd.returns rfl (Or.inl ⟨rfl, Or.inl rfl, _, rfl⟩) (hb hby d23_17) hr
  · show Qpci_1_2 Z  h0 n0 _ s₁.heap _
    rw [e0]
    exact ⟨rfl, N0, rfl⟩
def Qoci_1_2 (Z : State)  (h0 : Heap) (n0 : Nat) (v : Option Value) (h : Heap) (L : List Loc) : Prop := v = some (.int (1 : Int32)) ∧ Fr n0 L ∧ h = h0
theorem efoci_1_2 (m : MethodId)  : entryFrame m #[(.int (1 : Int32)), (.int (2 : Int32))] 2 = mkF m 0 #[.val (.int (1 : Int32)), .val (.int (2 : Int32))] [] := by first | (simp [entryFrame, mkF, argsToLocals, Value.category]; done) | rfl
set_option maxRecDepth 65536 in
set_option maxHeartbeats 40000000 in
theorem oci_1_2 (l : Launch) (Z : State) (a0 : Array Value) (hw : ∀ d ∈ tables_1, d.before a0 Z = true) (ws : List Jvm.Cond)  (h0 : Heap) (n0 : Nat) (Z0 : n0 ≤ h0.size)  :
    MetFree l (⟨"java/util/Objects", "checkIndex", "(II)I"⟩ : MethodName) (head1 (Jvm.Cond.code (⟨"java/util/Objects", "checkIndex", "(II)I"⟩ : MethodName) jdk_31_method_17_code 2 (some .int) :: ws) ({ frames := 1, cells := 0, slots := 0, locals := 14 } : Room)) (fun a U => a = #[(.int (1 : Int32)), (.int (2 : Int32))] ∧ Z.Warmed39 U.vm ∧ U.heap = h0) (fun _ _ _ _ _ => True) (fun _ U o U' => ∃ v L, o = .returned v ∧ Qoci_1_2 Z  h0 n0 v U'.heap L ∧ FrameEnd U o U' L ({ frames := 1, cells := 0, slots := 0, locals := 14 } : Room).cells ({ frames := 1, cells := 0, slots := 0, locals := 14 } : Room).slots) := by
  refine MetFree.of_bodySF (plainFor_of_name pn_7) hisR ?_
  intro p e s m args below meth c s₁ Bd hml0 hP hK
  obtain ⟨rfl, hZ, hh⟩ := hP
  have hx := Bd.exec
  have hby := Bd.bytes
  have hml : c.maxLocals = 2 := hml0
  have hown : s.vm.findClass "java/util/Objects" = some m.cls := findClass_of_methodNamed Bd.named
  have hnm := (name_of_methodNamed Bd.named Bd.method).1
  have X0 : Stand p l e ({ frames := 1, cells := 0, slots := 0, locals := 14 } : Room) s m #[(.int (1 : Int32)), (.int (2 : Int32))] below meth c s₁ [] 0 0 := Stand.of_body Bd
  have e0 : s₁.heap = h0 := by rw [← hh, Bd.state]; rfl
  have N0 := Fr.nil n0
  have K0 : Keep h0 h0 [] := Keep.refl h0 _
  refine own_go (B := s₁.setTop (mkF m 0 #[.val (.int (1 : Int32)), .val (.int (2 : Int32))] [])) (fun t k => castTop (efoci_1_2 m ) k) ?_
  refine own_go (B := s₁.setTop (mkF m 3 #[.val (.int (1 : Int32)), .val (.int (2 : Int32))] [.null, (.int (2 : Int32)), (.int (1 : Int32))])) (fun t k => ?_) ?_
  · refine XS.iloadN X0.here hx rfl (hb hby d22_0) rfl ?_
    refine XS.iloadN X0.here hx rfl (hb hby d22_1) rfl ?_
    refine XS.aconstNull X0.here hx rfl (hb hby d22_2) ?_
    exact k
  obtain ⟨_, _, ⟨T403, L403, k403, n403⟩, -, X403, ⟨Lc403, hQ403, l403, y403, z403⟩, st403⟩ := Jvm.LawKit.callS X0 hx (y := (⟨"jdk/internal/util/Preconditions", "checkIndex", "(IILjava/util/function/BiFunction;)I"⟩ : MethodName)) hown (mvT hZ (own_w hw 141 rfl)) (mvT hZ (own_w hw 142 rfl)) (mvT hZ (own_w hw 143 rfl)) (mvT hZ (own_w hw 144 rfl)) (by decide) (backOf (W := 0) (pci_1_2 l Z a0 hw []  h0 n0 Z0 ) hZ (own_w hw 144 rfl) (own_w hw 143 rfl) (by decide) (by decide)) (g := (mkF m 3 #[.val (.int (1 : Int32)), .val (.int (2 : Int32))] [.null, (.int (2 : Int32)), (.int (1 : Int32))])) rfl (by rw [hml]; rfl) (argsL := [(.int (1 : Int32)), (.int (2 : Int32)), .null]) (rest := []) (lenOf pd_10 rfl) rfl (by show 2 * 0 + _ ≤ _; exact Nat.le_of_eq rfl) (hb hby d22_3) (fun _ _ => ⟨rfl, e0, (by decide : 0 + 0 ≤ _), (by decide : 0 + 0 ≤ _)⟩)
  dsimp only [Pt.U, Pt.locs, Pt.cells, Pt.slots] at X403 l403 y403 z403 st403 hQ403
  subst l403 y403 z403
  obtain ⟨rfl, Nq403, e403⟩ := hQ403
  have N403 := Fr.app N0 Nq403
  refine own_go (B := T403.setTop (mkF m 6 #[.val (.int (1 : Int32)), .val (.int (2 : Int32))] [(.int (1 : Int32))])) st403 ?_
  obtain ⟨fs, hr, hrun, hended, hW, hsame⟩ := X403.leave (v := some (.int (1 : Int32))) (fun h => by rw [Bd.returns] at h; cases h)
  refine ⟨_, _, ?_, hrun, hended, _, _, rfl, ?_, ⟨_, rfl⟩, hW, hsame.mono (by decide) (by decide)⟩
  · show Steps p.tables e below (T403.setTop (mkF m 6 #[.val (.int (1 : Int32)), .val (.int (2 : Int32))] [(.int (1 : Int32))])) _
    exact retOut X403 hx Bd.returns rfl (Or.inl ⟨rfl, Or.inl rfl, _, rfl⟩) (hb hby d22_6) hr
  · show Qoci_1_2 Z  h0 n0 _ T403.heap _
    rw [e403]
    exact ⟨rfl, N403, rfl⟩
def Qeld_1_2 (Z : State) (li : Addr) (br : Addr) (kb : ClassId) (r0 : Addr) (r1 : Addr) (h0 : Heap) (n0 : Nat) (v : Option Value) (h : Heap) (L : List Loc) : Prop := v = some (.ref r1) ∧ Fr n0 L ∧ h = h0
theorem efeld_1_2 (m : MethodId) (x0 : Addr) : entryFrame m #[(.ref x0), (.int (1 : Int32))] 2 = mkF m 0 #[.val (.ref x0), .val (.int (1 : Int32))] [] := by first | (simp [entryFrame, mkF, argsToLocals, Value.category]; done) | rfl
set_option maxRecDepth 65536 in
set_option maxHeartbeats 40000000 in
theorem eld_1_2 (l : Launch) (Z : State) (a0 : Array Value) (hw : ∀ d ∈ tables_1, d.before a0 Z = true) (ws : List Jvm.Cond) (li : Addr) (br : Addr) (kb : ClassId) (r0 : Addr) (r1 : Addr) (h0 : Heap) (n0 : Nat) (Z0 : n0 ≤ h0.size) (P0 : Fld Z h0 li "java/util/ArrayList" "size" "I" (.int (2 : Int32))) (P1 : Fld Z h0 li "java/util/ArrayList" "elementData" "[Ljava/lang/Object;" (.ref br)) (P2 : Arv Z h0 br kb (.object "java/lang/Object") (10 : Int32) [(.ref r0), (.ref r1), .null, .null, .null, .null, .null, .null, .null, .null] .null) :
    MetFree l (⟨"java/util/ArrayList", "elementData", "(I)Ljava/lang/Object;"⟩ : MethodName) (head1 (Jvm.Cond.code (⟨"java/util/ArrayList", "elementData", "(I)Ljava/lang/Object;"⟩ : MethodName) jdk_38_method_18_code 2 (some (.object "java/lang/Object")) :: ws) ({ frames := 0, cells := 0, slots := 0, locals := 0 } : Room)) (fun a U => a = #[(.ref li), (.int (1 : Int32))] ∧ Z.Warmed39 U.vm ∧ U.heap = h0) (fun _ _ _ _ _ => True) (fun _ U o U' => ∃ v L, o = .returned v ∧ Qeld_1_2 Z li br kb r0 r1 h0 n0 v U'.heap L ∧ FrameEnd U o U' L ({ frames := 0, cells := 0, slots := 0, locals := 0 } : Room).cells ({ frames := 0, cells := 0, slots := 0, locals := 0 } : Room).slots) := by
  refine MetFree.of_bodySF (plainFor_of_name pn_5) hisR ?_
  intro p e s m args below meth c s₁ Bd hml0 hP hK
  obtain ⟨rfl, hZ, hh⟩ := hP
  have hx := Bd.exec
  have hby := Bd.bytes
  have hml : c.maxLocals = 2 := hml0
  have hown : s.vm.findClass "java/util/ArrayList" = some m.cls := findClass_of_methodNamed Bd.named
  have hnm := (name_of_methodNamed Bd.named Bd.method).1
  have X0 : Stand p l e ({ frames := 0, cells := 0, slots := 0, locals := 0 } : Room) s m #[(.ref li), (.int (1 : Int32))] below meth c s₁ [] 0 0 := Stand.of_body Bd
  have e0 : s₁.heap = h0 := by rw [← hh, Bd.state]; rfl
  have N0 := Fr.nil n0
  have K0 : Keep h0 h0 [] := Keep.refl h0 _
  refine own_go (B := s₁.setTop (mkF m 0 #[.val (.ref li), .val (.int (1 : Int32))] [])) (fun t k => castTop (efeld_1_2 m li) k) ?_
  refine own_go (B := s₁.setTop (mkF m 1 #[.val (.ref li), .val (.int (1 : Int32))] [(.ref li)])) (fun t k => ?_) ?_
  · refine XS.aloadN X0.here hx rfl (hb hby d24_0) rfl rfl ?_
    exact k
  obtain ⟨T404, X404, e404, st404⟩ := getF X0 hx hZ hown (host := "") (Or.inl (own_w hw 59 rfl)) Via.refl e0 P1 (g := (mkF m 1 #[.val (.ref li), .val (.int (1 : Int32))] [(.ref li)])) rfl rfl (hb hby d24_1)
  refine own_go st404 ?_
  refine own_go (B := T404.setTop (mkF m 5 #[.val (.ref li), .val (.int (1 : Int32))] [(.int (1 : Int32)), (.ref br)])) (fun t k => ?_) ?_
  · refine XS.iloadN X404.here hx rfl (hb hby d24_4) rfl ?_
    exact k
  obtain ⟨cl405, Ar405, q405, S405, M405, Ha405, G405⟩ := id P2
  have hin405 : ¬ ((1 : Int32) < 0 ∨ cl405.slots.size ≤ ((1 : Int32)).toNatClampNeg) := inb_of S405 ⟨by decide, by decide⟩
  refine own_go (X404.aaload hx (j := (1 : Int32)) (v := (.ref r1)) (by rw [e404]; exact Ar405.1) (State.isArrayOf_alike hZ.alike Ar405.2.1) rfl Ar405.2.2 hin405 (Has.at Ha405 hin405 rfl) (g := (mkF m 5 #[.val (.ref li), .val (.int (1 : Int32))] [(.int (1 : Int32)), (.ref br)])) rfl rfl (hb hby d24_5)) ?_
  obtain ⟨fs, hr, hrun, hended, hW, hsame⟩ := X404.leave (v := some (.ref r1)) (fun h => by rw [Bd.returns] at h; cases h)
  refine ⟨_, _, ?_, hrun, hended, _, _, rfl, ?_, ⟨_, rfl⟩, hW, hsame.mono (by decide) (by decide)⟩
  · show Steps p.tables e below (T404.setTop (mkF m 6 #[.val (.ref li), .val (.int (1 : Int32))] [(.ref r1)])) _
    exact retOut X404 hx Bd.returns rfl (Or.inr (Or.inr (Or.inr (Or.inr ⟨rfl, rfl, rfl⟩)))) (hb hby d24_6) hr
  · show Qeld_1_2 Z li br kb r0 r1 h0 n0 _ T404.heap _
    rw [e404]
    exact ⟨rfl, N0, rfl⟩
def Qget_1_2 (Z : State) (li : Addr) (br : Addr) (kb : ClassId) (r0 : Addr) (r1 : Addr) (h0 : Heap) (n0 : Nat) (v : Option Value) (h : Heap) (L : List Loc) : Prop := v = some (.ref r1) ∧ Fr n0 L ∧ h = h0
theorem efget_1_2 (m : MethodId) (x0 : Addr) : entryFrame m #[(.ref x0), (.int (1 : Int32))] 2 = mkF m 0 #[.val (.ref x0), .val (.int (1 : Int32))] [] := by first | (simp [entryFrame, mkF, argsToLocals, Value.category]; done) | rfl
set_option maxRecDepth 65536 in
set_option maxHeartbeats 40000000 in
theorem get_1_2 (l : Launch) (Z : State) (a0 : Array Value) (hw : ∀ d ∈ tables_1, d.before a0 Z = true) (ws : List Jvm.Cond) (li : Addr) (br : Addr) (kb : ClassId) (r0 : Addr) (r1 : Addr) (h0 : Heap) (n0 : Nat) (Z0 : n0 ≤ h0.size) (P0 : Exa Z h0 li "java/util/ArrayList") (P1 : Fld Z h0 li "java/util/ArrayList" "size" "I" (.int (2 : Int32))) (P2 : Fld Z h0 li "java/util/ArrayList" "elementData" "[Ljava/lang/Object;" (.ref br)) (P3 : Arv Z h0 br kb (.object "java/lang/Object") (10 : Int32) [(.ref r0), (.ref r1), .null, .null, .null, .null, .null, .null, .null, .null] .null) :
    MetFree l (⟨"java/util/ArrayList", "get", "(I)Ljava/lang/Object;"⟩ : MethodName) (head1 (Jvm.Cond.code (⟨"java/util/ArrayList", "get", "(I)Ljava/lang/Object;"⟩ : MethodName) jdk_38_method_20_code 2 (some (.object "java/lang/Object")) :: ws) ({ frames := 2, cells := 0, slots := 0, locals := 27 } : Room)) (fun a U => a = #[(.ref li), (.int (1 : Int32))] ∧ Z.Warmed39 U.vm ∧ U.heap = h0) (fun _ _ _ _ _ => True) (fun _ U o U' => ∃ v L, o = .returned v ∧ Qget_1_2 Z li br kb r0 r1 h0 n0 v U'.heap L ∧ FrameEnd U o U' L ({ frames := 2, cells := 0, slots := 0, locals := 27 } : Room).cells ({ frames := 2, cells := 0, slots := 0, locals := 27 } : Room).slots) := by
  refine MetFree.of_bodySF (plainFor_of_name pn_5) hisR ?_
  intro p e s m args below meth c s₁ Bd hml0 hP hK
  obtain ⟨rfl, hZ, hh⟩ := hP
  have hx := Bd.exec
  have hby := Bd.bytes
  have hml : c.maxLocals = 2 := hml0
  have hown : s.vm.findClass "java/util/ArrayList" = some m.cls := findClass_of_methodNamed Bd.named
  have hnm := (name_of_methodNamed Bd.named Bd.method).1
  have X0 : Stand p l e ({ frames := 2, cells := 0, slots := 0, locals := 27 } : Room) s m #[(.ref li), (.int (1 : Int32))] below meth c s₁ [] 0 0 := Stand.of_body Bd
  have e0 : s₁.heap = h0 := by rw [← hh, Bd.state]; rfl
  have N0 := Fr.nil n0
  have K0 : Keep h0 h0 [] := Keep.refl h0 _
  refine own_go (B := s₁.setTop (mkF m 0 #[.val (.ref li), .val (.int (1 : Int32))] [])) (fun t k => castTop (efget_1_2 m li) k) ?_
  refine own_go (B := s₁.setTop (mkF m 2 #[.val (.ref li), .val (.int (1 : Int32))] [(.ref li), (.int (1 : Int32))])) (fun t k => ?_) ?_
  · refine XS.iloadN X0.here hx rfl (hb hby d21_0) rfl ?_
    refine XS.aloadN X0.here hx rfl (hb hby d21_1) rfl rfl ?_
    exact k
  obtain ⟨T406, X406, e406, st406⟩ := getF X0 hx hZ hown (host := "") (Or.inl (own_w hw 94 rfl)) Via.refl e0 P1 (g := (mkF m 2 #[.val (.ref li), .val (.int (1 : Int32))] [(.ref li), (.int (1 : Int32))])) rfl rfl (hb hby d21_2)
  refine own_go st406 ?_
  obtain ⟨_, _, ⟨T407, L407, k407, n407⟩, -, X407, ⟨Lc407, hQ407, l407, y407, z407⟩, st407⟩ := Jvm.LawKit.callS X406 hx (y := (⟨"java/util/Objects", "checkIndex", "(II)I"⟩ : MethodName)) hown (mvT hZ (own_w hw 137 rfl)) (mvT hZ (own_w hw 138 rfl)) (mvT hZ (own_w hw 139 rfl)) (mvT hZ (own_w hw 140 rfl)) (by decide) (backOf (W := 0) (oci_1_2 l Z a0 hw []  h0 n0 Z0 ) hZ (own_w hw 140 rfl) (own_w hw 139 rfl) (by decide) (by decide)) (g := (mkF m 5 #[.val (.ref li), .val (.int (1 : Int32))] [(.int (2 : Int32)), (.int (1 : Int32))])) rfl (by rw [hml]; rfl) (argsL := [(.int (1 : Int32)), (.int (2 : Int32))]) (rest := []) (lenOf pd_6 rfl) rfl (by show 2 * 0 + _ ≤ _; exact Nat.le_of_eq rfl) (hb hby d21_5) (fun _ _ => ⟨rfl, e406, (by decide : 0 + 0 ≤ _), (by decide : 0 + 0 ≤ _)⟩)
  dsimp only [Pt.U, Pt.locs, Pt.cells, Pt.slots] at X407 l407 y407 z407 st407 hQ407
  subst l407 y407 z407
  obtain ⟨rfl, Nq407, e407⟩ := hQ407
  have N407 := Fr.app N0 Nq407
  refine own_go (B := T407.setTop (mkF m 8 #[.val (.ref li), .val (.int (1 : Int32))] [(.int (1 : Int32))])) st407 ?_
  refine own_go (B := T407.setTop (mkF m 11 #[.val (.ref li), .val (.int (1 : Int32))] [(.int (1 : Int32)), (.ref li)])) (fun t k => ?_) ?_
  · refine XS.pop X407.here hx rfl (hb hby d21_8) rfl rfl ?_
    refine XS.aloadN X407.here hx rfl (hb hby d21_9) rfl rfl ?_
    refine XS.iloadN X407.here hx rfl (hb hby d21_10) rfl ?_
    exact k
  obtain ⟨cq408, kq408, q408a, q408b, q408c⟩ := isOf hZ e407 P0
  obtain ⟨_, _, ⟨T408, L408, k408, n408⟩, -, X408, ⟨Lc408, hQ408, l408, y408, z408⟩, st408⟩ := X407.virtualBack hx (y := (⟨"java/util/ArrayList", "elementData", "(I)Ljava/lang/Object;"⟩ : MethodName)) (z := (⟨"java/util/ArrayList", "elementData", "(I)Ljava/lang/Object;"⟩ : MethodName)) hown (mvT hZ (own_w hw 145 rfl)) (mvT hZ (own_w hw 146 rfl)) (notFace_of_selects (args := #[]) (mvT hZ (own_w hw 148 rfl))) (mvT hZ (own_w hw 148 rfl)) (mvT hZ (own_w hw 147 rfl)) (by decide) (backOf (W := 0) (eld_1_2 l Z a0 hw [] li br kb r0 r1 h0 n0 Z0 P1 P2 P3) hZ (own_w hw 149 rfl) (own_w hw 39 rfl) (by decide) (by decide)) q408a q408c (g := (mkF m 11 #[.val (.ref li), .val (.int (1 : Int32))] [(.int (1 : Int32)), (.ref li)])) rfl (by rw [hml]; rfl) (Steps.refl _) (argsL := [(.int (1 : Int32))]) (rest := []) (lenOf pd_11 rfl) rfl (by show 2 * 0 + _ ≤ _; exact Nat.le_of_eq rfl) (hb hby d21_11) (fun _ _ => ⟨rfl, e407, (by decide : 0 + 0 ≤ _), (by decide : 0 + 0 ≤ _)⟩)
  dsimp only [Pt.U, Pt.locs, Pt.cells, Pt.slots] at X408 l408 y408 z408 st408 hQ408
  subst l408 y408 z408
  obtain ⟨rfl, Nq408, e408⟩ := hQ408
  have N408 := Fr.app N407 Nq408
  refine own_go (B := T408.setTop (mkF m 14 #[.val (.ref li), .val (.int (1 : Int32))] [(.ref r1)])) (fun t k => st408.trans k) ?_
  obtain ⟨fs, hr, hrun, hended, hW, hsame⟩ := X408.leave (v := some (.ref r1)) (fun h => by rw [Bd.returns] at h; cases h)
  refine ⟨_, _, ?_, hrun, hended, _, _, rfl, ?_, ⟨_, rfl⟩, hW, hsame.mono (by decide) (by decide)⟩
  · show Steps p.tables e below (T408.setTop (mkF m 14 #[.val (.ref li), .val (.int (1 : Int32))] [(.ref r1)])) _
    exact retOut X408 hx Bd.returns rfl (Or.inr (Or.inr (Or.inr (Or.inr ⟨rfl, rfl, rfl⟩)))) (hb hby d21_14) hr
  · show Qget_1_2 Z li br kb r0 r1 h0 n0 _ T408.heap _
    rw [e408]
    exact ⟨rfl, N408, rfl⟩
def Qpci_0_3 (Z : State)  (h0 : Heap) (n0 : Nat) (v : Option Value) (h : Heap) (L : List Loc) : Prop := v = some (.int (0 : Int32)) ∧ Fr n0 L ∧ h = h0
theorem efpci_0_3 (m : MethodId)  : entryFrame m #[(.int (0 : Int32)), (.int (3 : Int32)), .null] 3 = mkF m 0 #[.val (.int (0 : Int32)), .val (.int (3 : Int32)), .val .null] [] := by first | (simp [entryFrame, mkF, argsToLocals, Value.category]; done) | rfl
set_option maxRecDepth 65536 in
set_option maxHeartbeats 40000000 in
theorem pci_0_3 (l : Launch) (Z : State) (a0 : Array Value) (hw : ∀ d ∈ tables_1, d.before a0 Z = true) (ws : List Jvm.Cond)  (h0 : Heap) (n0 : Nat) (Z0 : n0 ≤ h0.size)  :
    MetFree l (⟨"jdk/internal/util/Preconditions", "checkIndex", "(IILjava/util/function/BiFunction;)I"⟩ : MethodName) (head1 (Jvm.Cond.code (⟨"jdk/internal/util/Preconditions", "checkIndex", "(IILjava/util/function/BiFunction;)I"⟩ : MethodName) jdk_41_method_11_code 3 (some .int) :: ws) ({ frames := 0, cells := 0, slots := 0, locals := 0 } : Room)) (fun a U => a = #[(.int (0 : Int32)), (.int (3 : Int32)), .null] ∧ Z.Warmed39 U.vm ∧ U.heap = h0) (fun _ _ _ _ _ => True) (fun _ U o U' => ∃ v L, o = .returned v ∧ Qpci_0_3 Z  h0 n0 v U'.heap L ∧ FrameEnd U o U' L ({ frames := 0, cells := 0, slots := 0, locals := 0 } : Room).cells ({ frames := 0, cells := 0, slots := 0, locals := 0 } : Room).slots) := by
  refine MetFree.of_bodySF (plainFor_of_name pn_6) hisR ?_
  intro p e s m args below meth c s₁ Bd hml0 hP hK
  obtain ⟨rfl, hZ, hh⟩ := hP
  have hx := Bd.exec
  have hby := Bd.bytes
  have hml : c.maxLocals = 3 := hml0
  have hown : s.vm.findClass "jdk/internal/util/Preconditions" = some m.cls := findClass_of_methodNamed Bd.named
  have hnm := (name_of_methodNamed Bd.named Bd.method).1
  have X0 : Stand p l e ({ frames := 0, cells := 0, slots := 0, locals := 0 } : Room) s m #[(.int (0 : Int32)), (.int (3 : Int32)), .null] below meth c s₁ [] 0 0 := Stand.of_body Bd
  have e0 : s₁.heap = h0 := by rw [← hh, Bd.state]; rfl
  have N0 := Fr.nil n0
  have K0 : Keep h0 h0 [] := Keep.refl h0 _
  refine own_go (B := s₁.setTop (mkF m 0 #[.val (.int (0 : Int32)), .val (.int (3 : Int32)), .val .null] [])) (fun t k => castTop (efpci_0_3 m ) k) ?_
  refine own_go (B := s₁.setTop (mkF m 17 #[.val (.int (0 : Int32)), .val (.int (3 : Int32)), .val .null] [(.int (0 : Int32))])) (fun t k => ?_) ?_
  · refine XS.iloadN X0.here hx rfl (hb hby d23_0) rfl ?_
    refine XS.ifNo X0.here hx rfl (hb hby d23_1) rfl ((if0 _ _).trans (flt Int32.lt_irrefl).1) ?_
    refine XS.iloadN X0.here hx rfl (hb hby d23_4) rfl ?_
    refine XS.iloadN X0.here hx rfl (hb hby d23_5) rfl ?_
    refine XS.icmpYes X0.here hx rfl (pc0 := 6) (pc' := 16) rfl (hb hby d23_6) rfl (tlt (by decide : ((0 : Int32) < (3 : Int32)))).1 (by decide) (by decide) ?_
    refine XS.iloadN X0.here hx rfl (hb hby d23_16) rfl ?_
    exact k
  obtain ⟨fs, hr, hrun, hended, hW, hsame⟩ := X0.leave (v := some (.int (0 : Int32))) (fun h => by rw [Bd.returns] at h; cases h)
  refine ⟨_, _, ?_, hrun, hended, _, _, rfl, ?_, ⟨_, rfl⟩, hW, hsame.mono (by decide) (by decide)⟩
  · show Steps p.tables e below (s₁.setTop (mkF m 17 #[.val (.int (0 : Int32)), .val (.int (3 : Int32)), .val .null] [(.int (0 : Int32))])) _
    exact retOut X0 hx Bd.returns rfl (Or.inl ⟨rfl, Or.inl rfl, _, rfl⟩) (hb hby d23_17) hr
  · show Qpci_0_3 Z  h0 n0 _ s₁.heap _
    rw [e0]
    exact ⟨rfl, N0, rfl⟩
def Qoci_0_3 (Z : State)  (h0 : Heap) (n0 : Nat) (v : Option Value) (h : Heap) (L : List Loc) : Prop := v = some (.int (0 : Int32)) ∧ Fr n0 L ∧ h = h0
theorem efoci_0_3 (m : MethodId)  : entryFrame m #[(.int (0 : Int32)), (.int (3 : Int32))] 2 = mkF m 0 #[.val (.int (0 : Int32)), .val (.int (3 : Int32))] [] := by first | (simp [entryFrame, mkF, argsToLocals, Value.category]; done) | rfl
set_option maxRecDepth 65536 in
set_option maxHeartbeats 40000000 in
theorem oci_0_3 (l : Launch) (Z : State) (a0 : Array Value) (hw : ∀ d ∈ tables_1, d.before a0 Z = true) (ws : List Jvm.Cond)  (h0 : Heap) (n0 : Nat) (Z0 : n0 ≤ h0.size)  :
    MetFree l (⟨"java/util/Objects", "checkIndex", "(II)I"⟩ : MethodName) (head1 (Jvm.Cond.code (⟨"java/util/Objects", "checkIndex", "(II)I"⟩ : MethodName) jdk_31_method_17_code 2 (some .int) :: ws) ({ frames := 1, cells := 0, slots := 0, locals := 14 } : Room)) (fun a U => a = #[(.int (0 : Int32)), (.int (3 : Int32))] ∧ Z.Warmed39 U.vm ∧ U.heap = h0) (fun _ _ _ _ _ => True) (fun _ U o U' => ∃ v L, o = .returned v ∧ Qoci_0_3 Z  h0 n0 v U'.heap L ∧ FrameEnd U o U' L ({ frames := 1, cells := 0, slots := 0, locals := 14 } : Room).cells ({ frames := 1, cells := 0, slots := 0, locals := 14 } : Room).slots) := by
  refine MetFree.of_bodySF (plainFor_of_name pn_7) hisR ?_
  intro p e s m args below meth c s₁ Bd hml0 hP hK
  obtain ⟨rfl, hZ, hh⟩ := hP
  have hx := Bd.exec
  have hby := Bd.bytes
  have hml : c.maxLocals = 2 := hml0
  have hown : s.vm.findClass "java/util/Objects" = some m.cls := findClass_of_methodNamed Bd.named
  have hnm := (name_of_methodNamed Bd.named Bd.method).1
  have X0 : Stand p l e ({ frames := 1, cells := 0, slots := 0, locals := 14 } : Room) s m #[(.int (0 : Int32)), (.int (3 : Int32))] below meth c s₁ [] 0 0 := Stand.of_body Bd
  have e0 : s₁.heap = h0 := by rw [← hh, Bd.state]; rfl
  have N0 := Fr.nil n0
  have K0 : Keep h0 h0 [] := Keep.refl h0 _
  refine own_go (B := s₁.setTop (mkF m 0 #[.val (.int (0 : Int32)), .val (.int (3 : Int32))] [])) (fun t k => castTop (efoci_0_3 m ) k) ?_
  refine own_go (B := s₁.setTop (mkF m 3 #[.val (.int (0 : Int32)), .val (.int (3 : Int32))] [.null, (.int (3 : Int32)), (.int (0 : Int32))])) (fun t k => ?_) ?_
  · refine XS.iloadN X0.here hx rfl (hb hby d22_0) rfl ?_
    refine XS.iloadN X0.here hx rfl (hb hby d22_1) rfl ?_
    refine XS.aconstNull X0.here hx rfl (hb hby d22_2) ?_
    exact k
  obtain ⟨_, _, ⟨T411, L411, k411, n411⟩, -, X411, ⟨Lc411, hQ411, l411, y411, z411⟩, st411⟩ := Jvm.LawKit.callS X0 hx (y := (⟨"jdk/internal/util/Preconditions", "checkIndex", "(IILjava/util/function/BiFunction;)I"⟩ : MethodName)) hown (mvT hZ (own_w hw 141 rfl)) (mvT hZ (own_w hw 142 rfl)) (mvT hZ (own_w hw 143 rfl)) (mvT hZ (own_w hw 144 rfl)) (by decide) (backOf (W := 0) (pci_0_3 l Z a0 hw []  h0 n0 Z0 ) hZ (own_w hw 144 rfl) (own_w hw 143 rfl) (by decide) (by decide)) (g := (mkF m 3 #[.val (.int (0 : Int32)), .val (.int (3 : Int32))] [.null, (.int (3 : Int32)), (.int (0 : Int32))])) rfl (by rw [hml]; rfl) (argsL := [(.int (0 : Int32)), (.int (3 : Int32)), .null]) (rest := []) (lenOf pd_10 rfl) rfl (by show 2 * 0 + _ ≤ _; exact Nat.le_of_eq rfl) (hb hby d22_3) (fun _ _ => ⟨rfl, e0, (by decide : 0 + 0 ≤ _), (by decide : 0 + 0 ≤ _)⟩)
  dsimp only [Pt.U, Pt.locs, Pt.cells, Pt.slots] at X411 l411 y411 z411 st411 hQ411
  subst l411 y411 z411
  obtain ⟨rfl, Nq411, e411⟩ := hQ411
  have N411 := Fr.app N0 Nq411
  refine own_go (B := T411.setTop (mkF m 6 #[.val (.int (0 : Int32)), .val (.int (3 : Int32))] [(.int (0 : Int32))])) st411 ?_
  obtain ⟨fs, hr, hrun, hended, hW, hsame⟩ := X411.leave (v := some (.int (0 : Int32))) (fun h => by rw [Bd.returns] at h; cases h)
  refine ⟨_, _, ?_, hrun, hended, _, _, rfl, ?_, ⟨_, rfl⟩, hW, hsame.mono (by decide) (by decide)⟩
  · show Steps p.tables e below (T411.setTop (mkF m 6 #[.val (.int (0 : Int32)), .val (.int (3 : Int32))] [(.int (0 : Int32))])) _
    exact retOut X411 hx Bd.returns rfl (Or.inl ⟨rfl, Or.inl rfl, _, rfl⟩) (hb hby d22_6) hr
  · show Qoci_0_3 Z  h0 n0 _ T411.heap _
    rw [e411]
    exact ⟨rfl, N411, rfl⟩
def Qeld_0_3 (Z : State) (li : Addr) (br : Addr) (kb : ClassId) (r0 : Addr) (r1 : Addr) (r2 : Addr) (h0 : Heap) (n0 : Nat) (v : Option Value) (h : Heap) (L : List Loc) : Prop := v = some (.ref r0) ∧ Fr n0 L ∧ h = h0
theorem efeld_0_3 (m : MethodId) (x0 : Addr) : entryFrame m #[(.ref x0), (.int (0 : Int32))] 2 = mkF m 0 #[.val (.ref x0), .val (.int (0 : Int32))] [] := by first | (simp [entryFrame, mkF, argsToLocals, Value.category]; done) | rfl
set_option maxRecDepth 65536 in
set_option maxHeartbeats 40000000 in
theorem eld_0_3 (l : Launch) (Z : State) (a0 : Array Value) (hw : ∀ d ∈ tables_1, d.before a0 Z = true) (ws : List Jvm.Cond) (li : Addr) (br : Addr) (kb : ClassId) (r0 : Addr) (r1 : Addr) (r2 : Addr) (h0 : Heap) (n0 : Nat) (Z0 : n0 ≤ h0.size) (P0 : Fld Z h0 li "java/util/ArrayList" "size" "I" (.int (3 : Int32))) (P1 : Fld Z h0 li "java/util/ArrayList" "elementData" "[Ljava/lang/Object;" (.ref br)) (P2 : Arv Z h0 br kb (.object "java/lang/Object") (10 : Int32) [(.ref r0), (.ref r1), (.ref r2), .null, .null, .null, .null, .null, .null, .null] .null) :
    MetFree l (⟨"java/util/ArrayList", "elementData", "(I)Ljava/lang/Object;"⟩ : MethodName) (head1 (Jvm.Cond.code (⟨"java/util/ArrayList", "elementData", "(I)Ljava/lang/Object;"⟩ : MethodName) jdk_38_method_18_code 2 (some (.object "java/lang/Object")) :: ws) ({ frames := 0, cells := 0, slots := 0, locals := 0 } : Room)) (fun a U => a = #[(.ref li), (.int (0 : Int32))] ∧ Z.Warmed39 U.vm ∧ U.heap = h0) (fun _ _ _ _ _ => True) (fun _ U o U' => ∃ v L, o = .returned v ∧ Qeld_0_3 Z li br kb r0 r1 r2 h0 n0 v U'.heap L ∧ FrameEnd U o U' L ({ frames := 0, cells := 0, slots := 0, locals := 0 } : Room).cells ({ frames := 0, cells := 0, slots := 0, locals := 0 } : Room).slots) := by
  refine MetFree.of_bodySF (plainFor_of_name pn_5) hisR ?_
  intro p e s m args below meth c s₁ Bd hml0 hP hK
  obtain ⟨rfl, hZ, hh⟩ := hP
  have hx := Bd.exec
  have hby := Bd.bytes
  have hml : c.maxLocals = 2 := hml0
  have hown : s.vm.findClass "java/util/ArrayList" = some m.cls := findClass_of_methodNamed Bd.named
  have hnm := (name_of_methodNamed Bd.named Bd.method).1
  have X0 : Stand p l e ({ frames := 0, cells := 0, slots := 0, locals := 0 } : Room) s m #[(.ref li), (.int (0 : Int32))] below meth c s₁ [] 0 0 := Stand.of_body Bd
  have e0 : s₁.heap = h0 := by rw [← hh, Bd.state]; rfl
  have N0 := Fr.nil n0
  have K0 : Keep h0 h0 [] := Keep.refl h0 _
  refine own_go (B := s₁.setTop (mkF m 0 #[.val (.ref li), .val (.int (0 : Int32))] [])) (fun t k => castTop (efeld_0_3 m li) k) ?_
  refine own_go (B := s₁.setTop (mkF m 1 #[.val (.ref li), .val (.int (0 : Int32))] [(.ref li)])) (fun t k => ?_) ?_
  · refine XS.aloadN X0.here hx rfl (hb hby d24_0) rfl rfl ?_
    exact k
  obtain ⟨T412, X412, e412, st412⟩ := getF X0 hx hZ hown (host := "") (Or.inl (own_w hw 59 rfl)) Via.refl e0 P1 (g := (mkF m 1 #[.val (.ref li), .val (.int (0 : Int32))] [(.ref li)])) rfl rfl (hb hby d24_1)
  refine own_go st412 ?_
  refine own_go (B := T412.setTop (mkF m 5 #[.val (.ref li), .val (.int (0 : Int32))] [(.int (0 : Int32)), (.ref br)])) (fun t k => ?_) ?_
  · refine XS.iloadN X412.here hx rfl (hb hby d24_4) rfl ?_
    exact k
  obtain ⟨cl413, Ar413, q413, S413, M413, Ha413, G413⟩ := id P2
  have hin413 : ¬ ((0 : Int32) < 0 ∨ cl413.slots.size ≤ ((0 : Int32)).toNatClampNeg) := inb_of S413 ⟨by decide, by decide⟩
  refine own_go (X412.aaload hx (j := (0 : Int32)) (v := (.ref r0)) (by rw [e412]; exact Ar413.1) (State.isArrayOf_alike hZ.alike Ar413.2.1) rfl Ar413.2.2 hin413 (Has.at Ha413 hin413 rfl) (g := (mkF m 5 #[.val (.ref li), .val (.int (0 : Int32))] [(.int (0 : Int32)), (.ref br)])) rfl rfl (hb hby d24_5)) ?_
  obtain ⟨fs, hr, hrun, hended, hW, hsame⟩ := X412.leave (v := some (.ref r0)) (fun h => by rw [Bd.returns] at h; cases h)
  refine ⟨_, _, ?_, hrun, hended, _, _, rfl, ?_, ⟨_, rfl⟩, hW, hsame.mono (by decide) (by decide)⟩
  · show Steps p.tables e below (T412.setTop (mkF m 6 #[.val (.ref li), .val (.int (0 : Int32))] [(.ref r0)])) _
    exact retOut X412 hx Bd.returns rfl (Or.inr (Or.inr (Or.inr (Or.inr ⟨rfl, rfl, rfl⟩)))) (hb hby d24_6) hr
  · show Qeld_0_3 Z li br kb r0 r1 r2 h0 n0 _ T412.heap _
    rw [e412]
    exact ⟨rfl, N0, rfl⟩
def Qget_0_3 (Z : State) (li : Addr) (br : Addr) (kb : ClassId) (r0 : Addr) (r1 : Addr) (r2 : Addr) (h0 : Heap) (n0 : Nat) (v : Option Value) (h : Heap) (L : List Loc) : Prop := v = some (.ref r0) ∧ Fr n0 L ∧ h = h0
theorem efget_0_3 (m : MethodId) (x0 : Addr) : entryFrame m #[(.ref x0), (.int (0 : Int32))] 2 = mkF m 0 #[.val (.ref x0), .val (.int (0 : Int32))] [] := by first | (simp [entryFrame, mkF, argsToLocals, Value.category]; done) | rfl
set_option maxRecDepth 65536 in
set_option maxHeartbeats 40000000 in
theorem get_0_3 (l : Launch) (Z : State) (a0 : Array Value) (hw : ∀ d ∈ tables_1, d.before a0 Z = true) (ws : List Jvm.Cond) (li : Addr) (br : Addr) (kb : ClassId) (r0 : Addr) (r1 : Addr) (r2 : Addr) (h0 : Heap) (n0 : Nat) (Z0 : n0 ≤ h0.size) (P0 : Exa Z h0 li "java/util/ArrayList") (P1 : Fld Z h0 li "java/util/ArrayList" "size" "I" (.int (3 : Int32))) (P2 : Fld Z h0 li "java/util/ArrayList" "elementData" "[Ljava/lang/Object;" (.ref br)) (P3 : Arv Z h0 br kb (.object "java/lang/Object") (10 : Int32) [(.ref r0), (.ref r1), (.ref r2), .null, .null, .null, .null, .null, .null, .null] .null) :
    MetFree l (⟨"java/util/ArrayList", "get", "(I)Ljava/lang/Object;"⟩ : MethodName) (head1 (Jvm.Cond.code (⟨"java/util/ArrayList", "get", "(I)Ljava/lang/Object;"⟩ : MethodName) jdk_38_method_20_code 2 (some (.object "java/lang/Object")) :: ws) ({ frames := 2, cells := 0, slots := 0, locals := 27 } : Room)) (fun a U => a = #[(.ref li), (.int (0 : Int32))] ∧ Z.Warmed39 U.vm ∧ U.heap = h0) (fun _ _ _ _ _ => True) (fun _ U o U' => ∃ v L, o = .returned v ∧ Qget_0_3 Z li br kb r0 r1 r2 h0 n0 v U'.heap L ∧ FrameEnd U o U' L ({ frames := 2, cells := 0, slots := 0, locals := 27 } : Room).cells ({ frames := 2, cells := 0, slots := 0, locals := 27 } : Room).slots) := by
  refine MetFree.of_bodySF (plainFor_of_name pn_5) hisR ?_
  intro p e s m args below meth c s₁ Bd hml0 hP hK
  obtain ⟨rfl, hZ, hh⟩ := hP
  have hx := Bd.exec
  have hby := Bd.bytes
  have hml : c.maxLocals = 2 := hml0
  have hown : s.vm.findClass "java/util/ArrayList" = some m.cls := findClass_of_methodNamed Bd.named
  have hnm := (name_of_methodNamed Bd.named Bd.method).1
  have X0 : Stand p l e ({ frames := 2, cells := 0, slots := 0, locals := 27 } : Room) s m #[(.ref li), (.int (0 : Int32))] below meth c s₁ [] 0 0 := Stand.of_body Bd
  have e0 : s₁.heap = h0 := by rw [← hh, Bd.state]; rfl
  have N0 := Fr.nil n0
  have K0 : Keep h0 h0 [] := Keep.refl h0 _
  refine own_go (B := s₁.setTop (mkF m 0 #[.val (.ref li), .val (.int (0 : Int32))] [])) (fun t k => castTop (efget_0_3 m li) k) ?_
  refine own_go (B := s₁.setTop (mkF m 2 #[.val (.ref li), .val (.int (0 : Int32))] [(.ref li), (.int (0 : Int32))])) (fun t k => ?_) ?_
  · refine XS.iloadN X0.here hx rfl (hb hby d21_0) rfl ?_
    refine XS.aloadN X0.here hx rfl (hb hby d21_1) rfl rfl ?_
    exact k
  obtain ⟨T414, X414, e414, st414⟩ := getF X0 hx hZ hown (host := "") (Or.inl (own_w hw 94 rfl)) Via.refl e0 P1 (g := (mkF m 2 #[.val (.ref li), .val (.int (0 : Int32))] [(.ref li), (.int (0 : Int32))])) rfl rfl (hb hby d21_2)
  refine own_go st414 ?_
  obtain ⟨_, _, ⟨T415, L415, k415, n415⟩, -, X415, ⟨Lc415, hQ415, l415, y415, z415⟩, st415⟩ := Jvm.LawKit.callS X414 hx (y := (⟨"java/util/Objects", "checkIndex", "(II)I"⟩ : MethodName)) hown (mvT hZ (own_w hw 137 rfl)) (mvT hZ (own_w hw 138 rfl)) (mvT hZ (own_w hw 139 rfl)) (mvT hZ (own_w hw 140 rfl)) (by decide) (backOf (W := 0) (oci_0_3 l Z a0 hw []  h0 n0 Z0 ) hZ (own_w hw 140 rfl) (own_w hw 139 rfl) (by decide) (by decide)) (g := (mkF m 5 #[.val (.ref li), .val (.int (0 : Int32))] [(.int (3 : Int32)), (.int (0 : Int32))])) rfl (by rw [hml]; rfl) (argsL := [(.int (0 : Int32)), (.int (3 : Int32))]) (rest := []) (lenOf pd_6 rfl) rfl (by show 2 * 0 + _ ≤ _; exact Nat.le_of_eq rfl) (hb hby d21_5) (fun _ _ => ⟨rfl, e414, (by decide : 0 + 0 ≤ _), (by decide : 0 + 0 ≤ _)⟩)
  dsimp only [Pt.U, Pt.locs, Pt.cells, Pt.slots] at X415 l415 y415 z415 st415 hQ415
  subst l415 y415 z415
  obtain ⟨rfl, Nq415, e415⟩ := hQ415
  have N415 := Fr.app N0 Nq415
  refine own_go (B := T415.setTop (mkF m 8 #[.val (.ref li), .val (.int (0 : Int32))] [(.int (0 : Int32))])) st415 ?_
  refine own_go (B := T415.setTop (mkF m 11 #[.val (.ref li), .val (.int (0 : Int32))] [(.int (0 : Int32)), (.ref li)])) (fun t k => ?_) ?_
  · refine XS.pop X415.here hx rfl (hb hby d21_8) rfl rfl ?_
    refine XS.aloadN X415.here hx rfl (hb hby d21_9) rfl rfl ?_
    refine XS.iloadN X415.here hx rfl (hb hby d21_10) rfl ?_
    exact k
  obtain ⟨cq416, kq416, q416a, q416b, q416c⟩ := isOf hZ e415 P0
  obtain ⟨_, _, ⟨T416, L416, k416, n416⟩, -, X416, ⟨Lc416, hQ416, l416, y416, z416⟩, st416⟩ := X415.virtualBack hx (y := (⟨"java/util/ArrayList", "elementData", "(I)Ljava/lang/Object;"⟩ : MethodName)) (z := (⟨"java/util/ArrayList", "elementData", "(I)Ljava/lang/Object;"⟩ : MethodName)) hown (mvT hZ (own_w hw 145 rfl)) (mvT hZ (own_w hw 146 rfl)) (notFace_of_selects (args := #[]) (mvT hZ (own_w hw 148 rfl))) (mvT hZ (own_w hw 148 rfl)) (mvT hZ (own_w hw 147 rfl)) (by decide) (backOf (W := 0) (eld_0_3 l Z a0 hw [] li br kb r0 r1 r2 h0 n0 Z0 P1 P2 P3) hZ (own_w hw 149 rfl) (own_w hw 39 rfl) (by decide) (by decide)) q416a q416c (g := (mkF m 11 #[.val (.ref li), .val (.int (0 : Int32))] [(.int (0 : Int32)), (.ref li)])) rfl (by rw [hml]; rfl) (Steps.refl _) (argsL := [(.int (0 : Int32))]) (rest := []) (lenOf pd_11 rfl) rfl (by show 2 * 0 + _ ≤ _; exact Nat.le_of_eq rfl) (hb hby d21_11) (fun _ _ => ⟨rfl, e415, (by decide : 0 + 0 ≤ _), (by decide : 0 + 0 ≤ _)⟩)
  dsimp only [Pt.U, Pt.locs, Pt.cells, Pt.slots] at X416 l416 y416 z416 st416 hQ416
  subst l416 y416 z416
  obtain ⟨rfl, Nq416, e416⟩ := hQ416
  have N416 := Fr.app N415 Nq416
  refine own_go (B := T416.setTop (mkF m 14 #[.val (.ref li), .val (.int (0 : Int32))] [(.ref r0)])) (fun t k => st416.trans k) ?_
  obtain ⟨fs, hr, hrun, hended, hW, hsame⟩ := X416.leave (v := some (.ref r0)) (fun h => by rw [Bd.returns] at h; cases h)
  refine ⟨_, _, ?_, hrun, hended, _, _, rfl, ?_, ⟨_, rfl⟩, hW, hsame.mono (by decide) (by decide)⟩
  · show Steps p.tables e below (T416.setTop (mkF m 14 #[.val (.ref li), .val (.int (0 : Int32))] [(.ref r0)])) _
    exact retOut X416 hx Bd.returns rfl (Or.inr (Or.inr (Or.inr (Or.inr ⟨rfl, rfl, rfl⟩)))) (hb hby d21_14) hr
  · show Qget_0_3 Z li br kb r0 r1 r2 h0 n0 _ T416.heap _
    rw [e416]
    exact ⟨rfl, N416, rfl⟩
def Qpci_1_3 (Z : State)  (h0 : Heap) (n0 : Nat) (v : Option Value) (h : Heap) (L : List Loc) : Prop := v = some (.int (1 : Int32)) ∧ Fr n0 L ∧ h = h0
theorem efpci_1_3 (m : MethodId)  : entryFrame m #[(.int (1 : Int32)), (.int (3 : Int32)), .null] 3 = mkF m 0 #[.val (.int (1 : Int32)), .val (.int (3 : Int32)), .val .null] [] := by first | (simp [entryFrame, mkF, argsToLocals, Value.category]; done) | rfl
set_option maxRecDepth 65536 in
set_option maxHeartbeats 40000000 in
theorem pci_1_3 (l : Launch) (Z : State) (a0 : Array Value) (hw : ∀ d ∈ tables_1, d.before a0 Z = true) (ws : List Jvm.Cond)  (h0 : Heap) (n0 : Nat) (Z0 : n0 ≤ h0.size)  :
    MetFree l (⟨"jdk/internal/util/Preconditions", "checkIndex", "(IILjava/util/function/BiFunction;)I"⟩ : MethodName) (head1 (Jvm.Cond.code (⟨"jdk/internal/util/Preconditions", "checkIndex", "(IILjava/util/function/BiFunction;)I"⟩ : MethodName) jdk_41_method_11_code 3 (some .int) :: ws) ({ frames := 0, cells := 0, slots := 0, locals := 0 } : Room)) (fun a U => a = #[(.int (1 : Int32)), (.int (3 : Int32)), .null] ∧ Z.Warmed39 U.vm ∧ U.heap = h0) (fun _ _ _ _ _ => True) (fun _ U o U' => ∃ v L, o = .returned v ∧ Qpci_1_3 Z  h0 n0 v U'.heap L ∧ FrameEnd U o U' L ({ frames := 0, cells := 0, slots := 0, locals := 0 } : Room).cells ({ frames := 0, cells := 0, slots := 0, locals := 0 } : Room).slots) := by
  refine MetFree.of_bodySF (plainFor_of_name pn_6) hisR ?_
  intro p e s m args below meth c s₁ Bd hml0 hP hK
  obtain ⟨rfl, hZ, hh⟩ := hP
  have hx := Bd.exec
  have hby := Bd.bytes
  have hml : c.maxLocals = 3 := hml0
  have hown : s.vm.findClass "jdk/internal/util/Preconditions" = some m.cls := findClass_of_methodNamed Bd.named
  have hnm := (name_of_methodNamed Bd.named Bd.method).1
  have X0 : Stand p l e ({ frames := 0, cells := 0, slots := 0, locals := 0 } : Room) s m #[(.int (1 : Int32)), (.int (3 : Int32)), .null] below meth c s₁ [] 0 0 := Stand.of_body Bd
  have e0 : s₁.heap = h0 := by rw [← hh, Bd.state]; rfl
  have N0 := Fr.nil n0
  have K0 : Keep h0 h0 [] := Keep.refl h0 _
  refine own_go (B := s₁.setTop (mkF m 0 #[.val (.int (1 : Int32)), .val (.int (3 : Int32)), .val .null] [])) (fun t k => castTop (efpci_1_3 m ) k) ?_
  refine own_go (B := s₁.setTop (mkF m 17 #[.val (.int (1 : Int32)), .val (.int (3 : Int32)), .val .null] [(.int (1 : Int32))])) (fun t k => ?_) ?_
  · refine XS.iloadN X0.here hx rfl (hb hby d23_0) rfl ?_
    refine XS.ifNo X0.here hx rfl (hb hby d23_1) rfl ((if0 _ _).trans (flt (by decide : ¬ ((1 : Int32) < (0 : Int32)))).1) ?_
    refine XS.iloadN X0.here hx rfl (hb hby d23_4) rfl ?_
    refine XS.iloadN X0.here hx rfl (hb hby d23_5) rfl ?_
    refine XS.icmpYes X0.here hx rfl (pc0 := 6) (pc' := 16) rfl (hb hby d23_6) rfl (tlt (by decide : ((1 : Int32) < (3 : Int32)))).1 (by decide) (by decide) ?_
    refine XS.iloadN X0.here hx rfl (hb hby d23_16) rfl ?_
    exact k
  obtain ⟨fs, hr, hrun, hended, hW, hsame⟩ := X0.leave (v := some (.int (1 : Int32))) (fun h => by rw [Bd.returns] at h; cases h)
  refine ⟨_, _, ?_, hrun, hended, _, _, rfl, ?_, ⟨_, rfl⟩, hW, hsame.mono (by decide) (by decide)⟩
  · show Steps p.tables e below (s₁.setTop (mkF m 17 #[.val (.int (1 : Int32)), .val (.int (3 : Int32)), .val .null] [(.int (1 : Int32))])) _
    exact retOut X0 hx Bd.returns rfl (Or.inl ⟨rfl, Or.inl rfl, _, rfl⟩) (hb hby d23_17) hr
  · show Qpci_1_3 Z  h0 n0 _ s₁.heap _
    rw [e0]
    exact ⟨rfl, N0, rfl⟩
def Qoci_1_3 (Z : State)  (h0 : Heap) (n0 : Nat) (v : Option Value) (h : Heap) (L : List Loc) : Prop := v = some (.int (1 : Int32)) ∧ Fr n0 L ∧ h = h0
theorem efoci_1_3 (m : MethodId)  : entryFrame m #[(.int (1 : Int32)), (.int (3 : Int32))] 2 = mkF m 0 #[.val (.int (1 : Int32)), .val (.int (3 : Int32))] [] := by first | (simp [entryFrame, mkF, argsToLocals, Value.category]; done) | rfl
set_option maxRecDepth 65536 in
set_option maxHeartbeats 40000000 in
theorem oci_1_3 (l : Launch) (Z : State) (a0 : Array Value) (hw : ∀ d ∈ tables_1, d.before a0 Z = true) (ws : List Jvm.Cond)  (h0 : Heap) (n0 : Nat) (Z0 : n0 ≤ h0.size)  :
    MetFree l (⟨"java/util/Objects", "checkIndex", "(II)I"⟩ : MethodName) (head1 (Jvm.Cond.code (⟨"java/util/Objects", "checkIndex", "(II)I"⟩ : MethodName) jdk_31_method_17_code 2 (some .int) :: ws) ({ frames := 1, cells := 0, slots := 0, locals := 14 } : Room)) (fun a U => a = #[(.int (1 : Int32)), (.int (3 : Int32))] ∧ Z.Warmed39 U.vm ∧ U.heap = h0) (fun _ _ _ _ _ => True) (fun _ U o U' => ∃ v L, o = .returned v ∧ Qoci_1_3 Z  h0 n0 v U'.heap L ∧ FrameEnd U o U' L ({ frames := 1, cells := 0, slots := 0, locals := 14 } : Room).cells ({ frames := 1, cells := 0, slots := 0, locals := 14 } : Room).slots) := by
  refine MetFree.of_bodySF (plainFor_of_name pn_7) hisR ?_
  intro p e s m args below meth c s₁ Bd hml0 hP hK
  obtain ⟨rfl, hZ, hh⟩ := hP
  have hx := Bd.exec
  have hby := Bd.bytes
  have hml : c.maxLocals = 2 := hml0
  have hown : s.vm.findClass "java/util/Objects" = some m.cls := findClass_of_methodNamed Bd.named
  have hnm := (name_of_methodNamed Bd.named Bd.method).1
  have X0 : Stand p l e ({ frames := 1, cells := 0, slots := 0, locals := 14 } : Room) s m #[(.int (1 : Int32)), (.int (3 : Int32))] below meth c s₁ [] 0 0 := Stand.of_body Bd
  have e0 : s₁.heap = h0 := by rw [← hh, Bd.state]; rfl
  have N0 := Fr.nil n0
  have K0 : Keep h0 h0 [] := Keep.refl h0 _
  refine own_go (B := s₁.setTop (mkF m 0 #[.val (.int (1 : Int32)), .val (.int (3 : Int32))] [])) (fun t k => castTop (efoci_1_3 m ) k) ?_
  refine own_go (B := s₁.setTop (mkF m 3 #[.val (.int (1 : Int32)), .val (.int (3 : Int32))] [.null, (.int (3 : Int32)), (.int (1 : Int32))])) (fun t k => ?_) ?_
  · refine XS.iloadN X0.here hx rfl (hb hby d22_0) rfl ?_
    refine XS.iloadN X0.here hx rfl (hb hby d22_1) rfl ?_
    refine XS.aconstNull X0.here hx rfl (hb hby d22_2) ?_
    exact k
  obtain ⟨_, _, ⟨T419, L419, k419, n419⟩, -, X419, ⟨Lc419, hQ419, l419, y419, z419⟩, st419⟩ := Jvm.LawKit.callS X0 hx (y := (⟨"jdk/internal/util/Preconditions", "checkIndex", "(IILjava/util/function/BiFunction;)I"⟩ : MethodName)) hown (mvT hZ (own_w hw 141 rfl)) (mvT hZ (own_w hw 142 rfl)) (mvT hZ (own_w hw 143 rfl)) (mvT hZ (own_w hw 144 rfl)) (by decide) (backOf (W := 0) (pci_1_3 l Z a0 hw []  h0 n0 Z0 ) hZ (own_w hw 144 rfl) (own_w hw 143 rfl) (by decide) (by decide)) (g := (mkF m 3 #[.val (.int (1 : Int32)), .val (.int (3 : Int32))] [.null, (.int (3 : Int32)), (.int (1 : Int32))])) rfl (by rw [hml]; rfl) (argsL := [(.int (1 : Int32)), (.int (3 : Int32)), .null]) (rest := []) (lenOf pd_10 rfl) rfl (by show 2 * 0 + _ ≤ _; exact Nat.le_of_eq rfl) (hb hby d22_3) (fun _ _ => ⟨rfl, e0, (by decide : 0 + 0 ≤ _), (by decide : 0 + 0 ≤ _)⟩)
  dsimp only [Pt.U, Pt.locs, Pt.cells, Pt.slots] at X419 l419 y419 z419 st419 hQ419
  subst l419 y419 z419
  obtain ⟨rfl, Nq419, e419⟩ := hQ419
  have N419 := Fr.app N0 Nq419
  refine own_go (B := T419.setTop (mkF m 6 #[.val (.int (1 : Int32)), .val (.int (3 : Int32))] [(.int (1 : Int32))])) st419 ?_
  obtain ⟨fs, hr, hrun, hended, hW, hsame⟩ := X419.leave (v := some (.int (1 : Int32))) (fun h => by rw [Bd.returns] at h; cases h)
  refine ⟨_, _, ?_, hrun, hended, _, _, rfl, ?_, ⟨_, rfl⟩, hW, hsame.mono (by decide) (by decide)⟩
  · show Steps p.tables e below (T419.setTop (mkF m 6 #[.val (.int (1 : Int32)), .val (.int (3 : Int32))] [(.int (1 : Int32))])) _
    exact retOut X419 hx Bd.returns rfl (Or.inl ⟨rfl, Or.inl rfl, _, rfl⟩) (hb hby d22_6) hr
  · show Qoci_1_3 Z  h0 n0 _ T419.heap _
    rw [e419]
    exact ⟨rfl, N419, rfl⟩
def Qeld_1_3 (Z : State) (li : Addr) (br : Addr) (kb : ClassId) (r0 : Addr) (r1 : Addr) (r2 : Addr) (h0 : Heap) (n0 : Nat) (v : Option Value) (h : Heap) (L : List Loc) : Prop := v = some (.ref r1) ∧ Fr n0 L ∧ h = h0
theorem efeld_1_3 (m : MethodId) (x0 : Addr) : entryFrame m #[(.ref x0), (.int (1 : Int32))] 2 = mkF m 0 #[.val (.ref x0), .val (.int (1 : Int32))] [] := by first | (simp [entryFrame, mkF, argsToLocals, Value.category]; done) | rfl
set_option maxRecDepth 65536 in
set_option maxHeartbeats 40000000 in
theorem eld_1_3 (l : Launch) (Z : State) (a0 : Array Value) (hw : ∀ d ∈ tables_1, d.before a0 Z = true) (ws : List Jvm.Cond) (li : Addr) (br : Addr) (kb : ClassId) (r0 : Addr) (r1 : Addr) (r2 : Addr) (h0 : Heap) (n0 : Nat) (Z0 : n0 ≤ h0.size) (P0 : Fld Z h0 li "java/util/ArrayList" "size" "I" (.int (3 : Int32))) (P1 : Fld Z h0 li "java/util/ArrayList" "elementData" "[Ljava/lang/Object;" (.ref br)) (P2 : Arv Z h0 br kb (.object "java/lang/Object") (10 : Int32) [(.ref r0), (.ref r1), (.ref r2), .null, .null, .null, .null, .null, .null, .null] .null) :
    MetFree l (⟨"java/util/ArrayList", "elementData", "(I)Ljava/lang/Object;"⟩ : MethodName) (head1 (Jvm.Cond.code (⟨"java/util/ArrayList", "elementData", "(I)Ljava/lang/Object;"⟩ : MethodName) jdk_38_method_18_code 2 (some (.object "java/lang/Object")) :: ws) ({ frames := 0, cells := 0, slots := 0, locals := 0 } : Room)) (fun a U => a = #[(.ref li), (.int (1 : Int32))] ∧ Z.Warmed39 U.vm ∧ U.heap = h0) (fun _ _ _ _ _ => True) (fun _ U o U' => ∃ v L, o = .returned v ∧ Qeld_1_3 Z li br kb r0 r1 r2 h0 n0 v U'.heap L ∧ FrameEnd U o U' L ({ frames := 0, cells := 0, slots := 0, locals := 0 } : Room).cells ({ frames := 0, cells := 0, slots := 0, locals := 0 } : Room).slots) := by
  refine MetFree.of_bodySF (plainFor_of_name pn_5) hisR ?_
  intro p e s m args below meth c s₁ Bd hml0 hP hK
  obtain ⟨rfl, hZ, hh⟩ := hP
  have hx := Bd.exec
  have hby := Bd.bytes
  have hml : c.maxLocals = 2 := hml0
  have hown : s.vm.findClass "java/util/ArrayList" = some m.cls := findClass_of_methodNamed Bd.named
  have hnm := (name_of_methodNamed Bd.named Bd.method).1
  have X0 : Stand p l e ({ frames := 0, cells := 0, slots := 0, locals := 0 } : Room) s m #[(.ref li), (.int (1 : Int32))] below meth c s₁ [] 0 0 := Stand.of_body Bd
  have e0 : s₁.heap = h0 := by rw [← hh, Bd.state]; rfl
  have N0 := Fr.nil n0
  have K0 : Keep h0 h0 [] := Keep.refl h0 _
  refine own_go (B := s₁.setTop (mkF m 0 #[.val (.ref li), .val (.int (1 : Int32))] [])) (fun t k => castTop (efeld_1_3 m li) k) ?_
  refine own_go (B := s₁.setTop (mkF m 1 #[.val (.ref li), .val (.int (1 : Int32))] [(.ref li)])) (fun t k => ?_) ?_
  · refine XS.aloadN X0.here hx rfl (hb hby d24_0) rfl rfl ?_
    exact k
  obtain ⟨T420, X420, e420, st420⟩ := getF X0 hx hZ hown (host := "") (Or.inl (own_w hw 59 rfl)) Via.refl e0 P1 (g := (mkF m 1 #[.val (.ref li), .val (.int (1 : Int32))] [(.ref li)])) rfl rfl (hb hby d24_1)
  refine own_go st420 ?_
  refine own_go (B := T420.setTop (mkF m 5 #[.val (.ref li), .val (.int (1 : Int32))] [(.int (1 : Int32)), (.ref br)])) (fun t k => ?_) ?_
  · refine XS.iloadN X420.here hx rfl (hb hby d24_4) rfl ?_
    exact k
  obtain ⟨cl421, Ar421, q421, S421, M421, Ha421, G421⟩ := id P2
  have hin421 : ¬ ((1 : Int32) < 0 ∨ cl421.slots.size ≤ ((1 : Int32)).toNatClampNeg) := inb_of S421 ⟨by decide, by decide⟩
  refine own_go (X420.aaload hx (j := (1 : Int32)) (v := (.ref r1)) (by rw [e420]; exact Ar421.1) (State.isArrayOf_alike hZ.alike Ar421.2.1) rfl Ar421.2.2 hin421 (Has.at Ha421 hin421 rfl) (g := (mkF m 5 #[.val (.ref li), .val (.int (1 : Int32))] [(.int (1 : Int32)), (.ref br)])) rfl rfl (hb hby d24_5)) ?_
  obtain ⟨fs, hr, hrun, hended, hW, hsame⟩ := X420.leave (v := some (.ref r1)) (fun h => by rw [Bd.returns] at h; cases h)
  refine ⟨_, _, ?_, hrun, hended, _, _, rfl, ?_, ⟨_, rfl⟩, hW, hsame.mono (by decide) (by decide)⟩
  · show Steps p.tables e below (T420.setTop (mkF m 6 #[.val (.ref li), .val (.int (1 : Int32))] [(.ref r1)])) _
    exact retOut X420 hx Bd.returns rfl (Or.inr (Or.inr (Or.inr (Or.inr ⟨rfl, rfl, rfl⟩)))) (hb hby d24_6) hr
  · show Qeld_1_3 Z li br kb r0 r1 r2 h0 n0 _ T420.heap _
    rw [e420]
    exact ⟨rfl, N0, rfl⟩
def Qget_1_3 (Z : State) (li : Addr) (br : Addr) (kb : ClassId) (r0 : Addr) (r1 : Addr) (r2 : Addr) (h0 : Heap) (n0 : Nat) (v : Option Value) (h : Heap) (L : List Loc) : Prop := v = some (.ref r1) ∧ Fr n0 L ∧ h = h0
theorem efget_1_3 (m : MethodId) (x0 : Addr) : entryFrame m #[(.ref x0), (.int (1 : Int32))] 2 = mkF m 0 #[.val (.ref x0), .val (.int (1 : Int32))] [] := by first | (simp [entryFrame, mkF, argsToLocals, Value.category]; done) | rfl
set_option maxRecDepth 65536 in
set_option maxHeartbeats 40000000 in
theorem get_1_3 (l : Launch) (Z : State) (a0 : Array Value) (hw : ∀ d ∈ tables_1, d.before a0 Z = true) (ws : List Jvm.Cond) (li : Addr) (br : Addr) (kb : ClassId) (r0 : Addr) (r1 : Addr) (r2 : Addr) (h0 : Heap) (n0 : Nat) (Z0 : n0 ≤ h0.size) (P0 : Exa Z h0 li "java/util/ArrayList") (P1 : Fld Z h0 li "java/util/ArrayList" "size" "I" (.int (3 : Int32))) (P2 : Fld Z h0 li "java/util/ArrayList" "elementData" "[Ljava/lang/Object;" (.ref br)) (P3 : Arv Z h0 br kb (.object "java/lang/Object") (10 : Int32) [(.ref r0), (.ref r1), (.ref r2), .null, .null, .null, .null, .null, .null, .null] .null) :
    MetFree l (⟨"java/util/ArrayList", "get", "(I)Ljava/lang/Object;"⟩ : MethodName) (head1 (Jvm.Cond.code (⟨"java/util/ArrayList", "get", "(I)Ljava/lang/Object;"⟩ : MethodName) jdk_38_method_20_code 2 (some (.object "java/lang/Object")) :: ws) ({ frames := 2, cells := 0, slots := 0, locals := 27 } : Room)) (fun a U => a = #[(.ref li), (.int (1 : Int32))] ∧ Z.Warmed39 U.vm ∧ U.heap = h0) (fun _ _ _ _ _ => True) (fun _ U o U' => ∃ v L, o = .returned v ∧ Qget_1_3 Z li br kb r0 r1 r2 h0 n0 v U'.heap L ∧ FrameEnd U o U' L ({ frames := 2, cells := 0, slots := 0, locals := 27 } : Room).cells ({ frames := 2, cells := 0, slots := 0, locals := 27 } : Room).slots) := by
  refine MetFree.of_bodySF (plainFor_of_name pn_5) hisR ?_
  intro p e s m args below meth c s₁ Bd hml0 hP hK
  obtain ⟨rfl, hZ, hh⟩ := hP
  have hx := Bd.exec
  have hby := Bd.bytes
  have hml : c.maxLocals = 2 := hml0
  have hown : s.vm.findClass "java/util/ArrayList" = some m.cls := findClass_of_methodNamed Bd.named
  have hnm := (name_of_methodNamed Bd.named Bd.method).1
  have X0 : Stand p l e ({ frames := 2, cells := 0, slots := 0, locals := 27 } : Room) s m #[(.ref li), (.int (1 : Int32))] below meth c s₁ [] 0 0 := Stand.of_body Bd
  have e0 : s₁.heap = h0 := by rw [← hh, Bd.state]; rfl
  have N0 := Fr.nil n0
  have K0 : Keep h0 h0 [] := Keep.refl h0 _
  refine own_go (B := s₁.setTop (mkF m 0 #[.val (.ref li), .val (.int (1 : Int32))] [])) (fun t k => castTop (efget_1_3 m li) k) ?_
  refine own_go (B := s₁.setTop (mkF m 2 #[.val (.ref li), .val (.int (1 : Int32))] [(.ref li), (.int (1 : Int32))])) (fun t k => ?_) ?_
  · refine XS.iloadN X0.here hx rfl (hb hby d21_0) rfl ?_
    refine XS.aloadN X0.here hx rfl (hb hby d21_1) rfl rfl ?_
    exact k
  obtain ⟨T422, X422, e422, st422⟩ := getF X0 hx hZ hown (host := "") (Or.inl (own_w hw 94 rfl)) Via.refl e0 P1 (g := (mkF m 2 #[.val (.ref li), .val (.int (1 : Int32))] [(.ref li), (.int (1 : Int32))])) rfl rfl (hb hby d21_2)
  refine own_go st422 ?_
  obtain ⟨_, _, ⟨T423, L423, k423, n423⟩, -, X423, ⟨Lc423, hQ423, l423, y423, z423⟩, st423⟩ := Jvm.LawKit.callS X422 hx (y := (⟨"java/util/Objects", "checkIndex", "(II)I"⟩ : MethodName)) hown (mvT hZ (own_w hw 137 rfl)) (mvT hZ (own_w hw 138 rfl)) (mvT hZ (own_w hw 139 rfl)) (mvT hZ (own_w hw 140 rfl)) (by decide) (backOf (W := 0) (oci_1_3 l Z a0 hw []  h0 n0 Z0 ) hZ (own_w hw 140 rfl) (own_w hw 139 rfl) (by decide) (by decide)) (g := (mkF m 5 #[.val (.ref li), .val (.int (1 : Int32))] [(.int (3 : Int32)), (.int (1 : Int32))])) rfl (by rw [hml]; rfl) (argsL := [(.int (1 : Int32)), (.int (3 : Int32))]) (rest := []) (lenOf pd_6 rfl) rfl (by show 2 * 0 + _ ≤ _; exact Nat.le_of_eq rfl) (hb hby d21_5) (fun _ _ => ⟨rfl, e422, (by decide : 0 + 0 ≤ _), (by decide : 0 + 0 ≤ _)⟩)
  dsimp only [Pt.U, Pt.locs, Pt.cells, Pt.slots] at X423 l423 y423 z423 st423 hQ423
  subst l423 y423 z423
  obtain ⟨rfl, Nq423, e423⟩ := hQ423
  have N423 := Fr.app N0 Nq423
  refine own_go (B := T423.setTop (mkF m 8 #[.val (.ref li), .val (.int (1 : Int32))] [(.int (1 : Int32))])) st423 ?_
  refine own_go (B := T423.setTop (mkF m 11 #[.val (.ref li), .val (.int (1 : Int32))] [(.int (1 : Int32)), (.ref li)])) (fun t k => ?_) ?_
  · refine XS.pop X423.here hx rfl (hb hby d21_8) rfl rfl ?_
    refine XS.aloadN X423.here hx rfl (hb hby d21_9) rfl rfl ?_
    refine XS.iloadN X423.here hx rfl (hb hby d21_10) rfl ?_
    exact k
  obtain ⟨cq424, kq424, q424a, q424b, q424c⟩ := isOf hZ e423 P0
  obtain ⟨_, _, ⟨T424, L424, k424, n424⟩, -, X424, ⟨Lc424, hQ424, l424, y424, z424⟩, st424⟩ := X423.virtualBack hx (y := (⟨"java/util/ArrayList", "elementData", "(I)Ljava/lang/Object;"⟩ : MethodName)) (z := (⟨"java/util/ArrayList", "elementData", "(I)Ljava/lang/Object;"⟩ : MethodName)) hown (mvT hZ (own_w hw 145 rfl)) (mvT hZ (own_w hw 146 rfl)) (notFace_of_selects (args := #[]) (mvT hZ (own_w hw 148 rfl))) (mvT hZ (own_w hw 148 rfl)) (mvT hZ (own_w hw 147 rfl)) (by decide) (backOf (W := 0) (eld_1_3 l Z a0 hw [] li br kb r0 r1 r2 h0 n0 Z0 P1 P2 P3) hZ (own_w hw 149 rfl) (own_w hw 39 rfl) (by decide) (by decide)) q424a q424c (g := (mkF m 11 #[.val (.ref li), .val (.int (1 : Int32))] [(.int (1 : Int32)), (.ref li)])) rfl (by rw [hml]; rfl) (Steps.refl _) (argsL := [(.int (1 : Int32))]) (rest := []) (lenOf pd_11 rfl) rfl (by show 2 * 0 + _ ≤ _; exact Nat.le_of_eq rfl) (hb hby d21_11) (fun _ _ => ⟨rfl, e423, (by decide : 0 + 0 ≤ _), (by decide : 0 + 0 ≤ _)⟩)
  dsimp only [Pt.U, Pt.locs, Pt.cells, Pt.slots] at X424 l424 y424 z424 st424 hQ424
  subst l424 y424 z424
  obtain ⟨rfl, Nq424, e424⟩ := hQ424
  have N424 := Fr.app N423 Nq424
  refine own_go (B := T424.setTop (mkF m 14 #[.val (.ref li), .val (.int (1 : Int32))] [(.ref r1)])) (fun t k => st424.trans k) ?_
  obtain ⟨fs, hr, hrun, hended, hW, hsame⟩ := X424.leave (v := some (.ref r1)) (fun h => by rw [Bd.returns] at h; cases h)
  refine ⟨_, _, ?_, hrun, hended, _, _, rfl, ?_, ⟨_, rfl⟩, hW, hsame.mono (by decide) (by decide)⟩
  · show Steps p.tables e below (T424.setTop (mkF m 14 #[.val (.ref li), .val (.int (1 : Int32))] [(.ref r1)])) _
    exact retOut X424 hx Bd.returns rfl (Or.inr (Or.inr (Or.inr (Or.inr ⟨rfl, rfl, rfl⟩)))) (hb hby d21_14) hr
  · show Qget_1_3 Z li br kb r0 r1 r2 h0 n0 _ T424.heap _
    rw [e424]
    exact ⟨rfl, N424, rfl⟩
def Qpci_2_3 (Z : State)  (h0 : Heap) (n0 : Nat) (v : Option Value) (h : Heap) (L : List Loc) : Prop := v = some (.int (2 : Int32)) ∧ Fr n0 L ∧ h = h0
theorem efpci_2_3 (m : MethodId)  : entryFrame m #[(.int (2 : Int32)), (.int (3 : Int32)), .null] 3 = mkF m 0 #[.val (.int (2 : Int32)), .val (.int (3 : Int32)), .val .null] [] := by first | (simp [entryFrame, mkF, argsToLocals, Value.category]; done) | rfl
set_option maxRecDepth 65536 in
set_option maxHeartbeats 40000000 in
theorem pci_2_3 (l : Launch) (Z : State) (a0 : Array Value) (hw : ∀ d ∈ tables_1, d.before a0 Z = true) (ws : List Jvm.Cond)  (h0 : Heap) (n0 : Nat) (Z0 : n0 ≤ h0.size)  :
    MetFree l (⟨"jdk/internal/util/Preconditions", "checkIndex", "(IILjava/util/function/BiFunction;)I"⟩ : MethodName) (head1 (Jvm.Cond.code (⟨"jdk/internal/util/Preconditions", "checkIndex", "(IILjava/util/function/BiFunction;)I"⟩ : MethodName) jdk_41_method_11_code 3 (some .int) :: ws) ({ frames := 0, cells := 0, slots := 0, locals := 0 } : Room)) (fun a U => a = #[(.int (2 : Int32)), (.int (3 : Int32)), .null] ∧ Z.Warmed39 U.vm ∧ U.heap = h0) (fun _ _ _ _ _ => True) (fun _ U o U' => ∃ v L, o = .returned v ∧ Qpci_2_3 Z  h0 n0 v U'.heap L ∧ FrameEnd U o U' L ({ frames := 0, cells := 0, slots := 0, locals := 0 } : Room).cells ({ frames := 0, cells := 0, slots := 0, locals := 0 } : Room).slots) := by
  refine MetFree.of_bodySF (plainFor_of_name pn_6) hisR ?_
  intro p e s m args below meth c s₁ Bd hml0 hP hK
  obtain ⟨rfl, hZ, hh⟩ := hP
  have hx := Bd.exec
  have hby := Bd.bytes
  have hml : c.maxLocals = 3 := hml0
  have hown : s.vm.findClass "jdk/internal/util/Preconditions" = some m.cls := findClass_of_methodNamed Bd.named
  have hnm := (name_of_methodNamed Bd.named Bd.method).1
  have X0 : Stand p l e ({ frames := 0, cells := 0, slots := 0, locals := 0 } : Room) s m #[(.int (2 : Int32)), (.int (3 : Int32)), .null] below meth c s₁ [] 0 0 := Stand.of_body Bd
  have e0 : s₁.heap = h0 := by rw [← hh, Bd.state]; rfl
  have N0 := Fr.nil n0
  have K0 : Keep h0 h0 [] := Keep.refl h0 _
  refine own_go (B := s₁.setTop (mkF m 0 #[.val (.int (2 : Int32)), .val (.int (3 : Int32)), .val .null] [])) (fun t k => castTop (efpci_2_3 m ) k) ?_
  refine own_go (B := s₁.setTop (mkF m 17 #[.val (.int (2 : Int32)), .val (.int (3 : Int32)), .val .null] [(.int (2 : Int32))])) (fun t k => ?_) ?_
  · refine XS.iloadN X0.here hx rfl (hb hby d23_0) rfl ?_
    refine XS.ifNo X0.here hx rfl (hb hby d23_1) rfl ((if0 _ _).trans (flt (by decide : ¬ ((2 : Int32) < (0 : Int32)))).1) ?_
    refine XS.iloadN X0.here hx rfl (hb hby d23_4) rfl ?_
    refine XS.iloadN X0.here hx rfl (hb hby d23_5) rfl ?_
    refine XS.icmpYes X0.here hx rfl (pc0 := 6) (pc' := 16) rfl (hb hby d23_6) rfl (tlt (by decide : ((2 : Int32) < (3 : Int32)))).1 (by decide) (by decide) ?_
    refine XS.iloadN X0.here hx rfl (hb hby d23_16) rfl ?_
    exact k
  obtain ⟨fs, hr, hrun, hended, hW, hsame⟩ := X0.leave (v := some (.int (2 : Int32))) (fun h => by rw [Bd.returns] at h; cases h)
  refine ⟨_, _, ?_, hrun, hended, _, _, rfl, ?_, ⟨_, rfl⟩, hW, hsame.mono (by decide) (by decide)⟩
  · show Steps p.tables e below (s₁.setTop (mkF m 17 #[.val (.int (2 : Int32)), .val (.int (3 : Int32)), .val .null] [(.int (2 : Int32))])) _
    exact retOut X0 hx Bd.returns rfl (Or.inl ⟨rfl, Or.inl rfl, _, rfl⟩) (hb hby d23_17) hr
  · show Qpci_2_3 Z  h0 n0 _ s₁.heap _
    rw [e0]
    exact ⟨rfl, N0, rfl⟩
def Qoci_2_3 (Z : State)  (h0 : Heap) (n0 : Nat) (v : Option Value) (h : Heap) (L : List Loc) : Prop := v = some (.int (2 : Int32)) ∧ Fr n0 L ∧ h = h0
theorem efoci_2_3 (m : MethodId)  : entryFrame m #[(.int (2 : Int32)), (.int (3 : Int32))] 2 = mkF m 0 #[.val (.int (2 : Int32)), .val (.int (3 : Int32))] [] := by first | (simp [entryFrame, mkF, argsToLocals, Value.category]; done) | rfl
set_option maxRecDepth 65536 in
set_option maxHeartbeats 40000000 in
theorem oci_2_3 (l : Launch) (Z : State) (a0 : Array Value) (hw : ∀ d ∈ tables_1, d.before a0 Z = true) (ws : List Jvm.Cond)  (h0 : Heap) (n0 : Nat) (Z0 : n0 ≤ h0.size)  :
    MetFree l (⟨"java/util/Objects", "checkIndex", "(II)I"⟩ : MethodName) (head1 (Jvm.Cond.code (⟨"java/util/Objects", "checkIndex", "(II)I"⟩ : MethodName) jdk_31_method_17_code 2 (some .int) :: ws) ({ frames := 1, cells := 0, slots := 0, locals := 14 } : Room)) (fun a U => a = #[(.int (2 : Int32)), (.int (3 : Int32))] ∧ Z.Warmed39 U.vm ∧ U.heap = h0) (fun _ _ _ _ _ => True) (fun _ U o U' => ∃ v L, o = .returned v ∧ Qoci_2_3 Z  h0 n0 v U'.heap L ∧ FrameEnd U o U' L ({ frames := 1, cells := 0, slots := 0, locals := 14 } : Room).cells ({ frames := 1, cells := 0, slots := 0, locals := 14 } : Room).slots) := by
  refine MetFree.of_bodySF (plainFor_of_name pn_7) hisR ?_
  intro p e s m args below meth c s₁ Bd hml0 hP hK
  obtain ⟨rfl, hZ, hh⟩ := hP
  have hx := Bd.exec
  have hby := Bd.bytes
  have hml : c.maxLocals = 2 := hml0
  have hown : s.vm.findClass "java/util/Objects" = some m.cls := findClass_of_methodNamed Bd.named
  have hnm := (name_of_methodNamed Bd.named Bd.method).1
  have X0 : Stand p l e ({ frames := 1, cells := 0, slots := 0, locals := 14 } : Room) s m #[(.int (2 : Int32)), (.int (3 : Int32))] below meth c s₁ [] 0 0 := Stand.of_body Bd
  have e0 : s₁.heap = h0 := by rw [← hh, Bd.state]; rfl
  have N0 := Fr.nil n0
  have K0 : Keep h0 h0 [] := Keep.refl h0 _
  refine own_go (B := s₁.setTop (mkF m 0 #[.val (.int (2 : Int32)), .val (.int (3 : Int32))] [])) (fun t k => castTop (efoci_2_3 m ) k) ?_
  refine own_go (B := s₁.setTop (mkF m 3 #[.val (.int (2 : Int32)), .val (.int (3 : Int32))] [.null, (.int (3 : Int32)), (.int (2 : Int32))])) (fun t k => ?_) ?_
  · refine XS.iloadN X0.here hx rfl (hb hby d22_0) rfl ?_
    refine XS.iloadN X0.here hx rfl (hb hby d22_1) rfl ?_
    refine XS.aconstNull X0.here hx rfl (hb hby d22_2) ?_
    exact k
  obtain ⟨_, _, ⟨T427, L427, k427, n427⟩, -, X427, ⟨Lc427, hQ427, l427, y427, z427⟩, st427⟩ := Jvm.LawKit.callS X0 hx (y := (⟨"jdk/internal/util/Preconditions", "checkIndex", "(IILjava/util/function/BiFunction;)I"⟩ : MethodName)) hown (mvT hZ (own_w hw 141 rfl)) (mvT hZ (own_w hw 142 rfl)) (mvT hZ (own_w hw 143 rfl)) (mvT hZ (own_w hw 144 rfl)) (by decide) (backOf (W := 0) (pci_2_3 l Z a0 hw []  h0 n0 Z0 ) hZ (own_w hw 144 rfl) (own_w hw 143 rfl) (by decide) (by decide)) (g := (mkF m 3 #[.val (.int (2 : Int32)), .val (.int (3 : Int32))] [.null, (.int (3 : Int32)), (.int (2 : Int32))])) rfl (by rw [hml]; rfl) (argsL := [(.int (2 : Int32)), (.int (3 : Int32)), .null]) (rest := []) (lenOf pd_10 rfl) rfl (by show 2 * 0 + _ ≤ _; exact Nat.le_of_eq rfl) (hb hby d22_3) (fun _ _ => ⟨rfl, e0, (by decide : 0 + 0 ≤ _), (by decide : 0 + 0 ≤ _)⟩)
  dsimp only [Pt.U, Pt.locs, Pt.cells, Pt.slots] at X427 l427 y427 z427 st427 hQ427
  subst l427 y427 z427
  obtain ⟨rfl, Nq427, e427⟩ := hQ427
  have N427 := Fr.app N0 Nq427
  refine own_go (B := T427.setTop (mkF m 6 #[.val (.int (2 : Int32)), .val (.int (3 : Int32))] [(.int (2 : Int32))])) st427 ?_
  obtain ⟨fs, hr, hrun, hended, hW, hsame⟩ := X427.leave (v := some (.int (2 : Int32))) (fun h => by rw [Bd.returns] at h; cases h)
  refine ⟨_, _, ?_, hrun, hended, _, _, rfl, ?_, ⟨_, rfl⟩, hW, hsame.mono (by decide) (by decide)⟩
  · show Steps p.tables e below (T427.setTop (mkF m 6 #[.val (.int (2 : Int32)), .val (.int (3 : Int32))] [(.int (2 : Int32))])) _
    exact retOut X427 hx Bd.returns rfl (Or.inl ⟨rfl, Or.inl rfl, _, rfl⟩) (hb hby d22_6) hr
  · show Qoci_2_3 Z  h0 n0 _ T427.heap _
    rw [e427]
    exact ⟨rfl, N427, rfl⟩
def Qeld_2_3 (Z : State) (li : Addr) (br : Addr) (kb : ClassId) (r0 : Addr) (r1 : Addr) (r2 : Addr) (h0 : Heap) (n0 : Nat) (v : Option Value) (h : Heap) (L : List Loc) : Prop := v = some (.ref r2) ∧ Fr n0 L ∧ h = h0
theorem efeld_2_3 (m : MethodId) (x0 : Addr) : entryFrame m #[(.ref x0), (.int (2 : Int32))] 2 = mkF m 0 #[.val (.ref x0), .val (.int (2 : Int32))] [] := by first | (simp [entryFrame, mkF, argsToLocals, Value.category]; done) | rfl
set_option maxRecDepth 65536 in
set_option maxHeartbeats 40000000 in
theorem eld_2_3 (l : Launch) (Z : State) (a0 : Array Value) (hw : ∀ d ∈ tables_1, d.before a0 Z = true) (ws : List Jvm.Cond) (li : Addr) (br : Addr) (kb : ClassId) (r0 : Addr) (r1 : Addr) (r2 : Addr) (h0 : Heap) (n0 : Nat) (Z0 : n0 ≤ h0.size) (P0 : Fld Z h0 li "java/util/ArrayList" "size" "I" (.int (3 : Int32))) (P1 : Fld Z h0 li "java/util/ArrayList" "elementData" "[Ljava/lang/Object;" (.ref br)) (P2 : Arv Z h0 br kb (.object "java/lang/Object") (10 : Int32) [(.ref r0), (.ref r1), (.ref r2), .null, .null, .null, .null, .null, .null, .null] .null) :
    MetFree l (⟨"java/util/ArrayList", "elementData", "(I)Ljava/lang/Object;"⟩ : MethodName) (head1 (Jvm.Cond.code (⟨"java/util/ArrayList", "elementData", "(I)Ljava/lang/Object;"⟩ : MethodName) jdk_38_method_18_code 2 (some (.object "java/lang/Object")) :: ws) ({ frames := 0, cells := 0, slots := 0, locals := 0 } : Room)) (fun a U => a = #[(.ref li), (.int (2 : Int32))] ∧ Z.Warmed39 U.vm ∧ U.heap = h0) (fun _ _ _ _ _ => True) (fun _ U o U' => ∃ v L, o = .returned v ∧ Qeld_2_3 Z li br kb r0 r1 r2 h0 n0 v U'.heap L ∧ FrameEnd U o U' L ({ frames := 0, cells := 0, slots := 0, locals := 0 } : Room).cells ({ frames := 0, cells := 0, slots := 0, locals := 0 } : Room).slots) := by
  refine MetFree.of_bodySF (plainFor_of_name pn_5) hisR ?_
  intro p e s m args below meth c s₁ Bd hml0 hP hK
  obtain ⟨rfl, hZ, hh⟩ := hP
  have hx := Bd.exec
  have hby := Bd.bytes
  have hml : c.maxLocals = 2 := hml0
  have hown : s.vm.findClass "java/util/ArrayList" = some m.cls := findClass_of_methodNamed Bd.named
  have hnm := (name_of_methodNamed Bd.named Bd.method).1
  have X0 : Stand p l e ({ frames := 0, cells := 0, slots := 0, locals := 0 } : Room) s m #[(.ref li), (.int (2 : Int32))] below meth c s₁ [] 0 0 := Stand.of_body Bd
  have e0 : s₁.heap = h0 := by rw [← hh, Bd.state]; rfl
  have N0 := Fr.nil n0
  have K0 : Keep h0 h0 [] := Keep.refl h0 _
  refine own_go (B := s₁.setTop (mkF m 0 #[.val (.ref li), .val (.int (2 : Int32))] [])) (fun t k => castTop (efeld_2_3 m li) k) ?_
  refine own_go (B := s₁.setTop (mkF m 1 #[.val (.ref li), .val (.int (2 : Int32))] [(.ref li)])) (fun t k => ?_) ?_
  · refine XS.aloadN X0.here hx rfl (hb hby d24_0) rfl rfl ?_
    exact k
  obtain ⟨T428, X428, e428, st428⟩ := getF X0 hx hZ hown (host := "") (Or.inl (own_w hw 59 rfl)) Via.refl e0 P1 (g := (mkF m 1 #[.val (.ref li), .val (.int (2 : Int32))] [(.ref li)])) rfl rfl (hb hby d24_1)
  refine own_go st428 ?_
  refine own_go (B := T428.setTop (mkF m 5 #[.val (.ref li), .val (.int (2 : Int32))] [(.int (2 : Int32)), (.ref br)])) (fun t k => ?_) ?_
  · refine XS.iloadN X428.here hx rfl (hb hby d24_4) rfl ?_
    exact k
  obtain ⟨cl429, Ar429, q429, S429, M429, Ha429, G429⟩ := id P2
  have hin429 : ¬ ((2 : Int32) < 0 ∨ cl429.slots.size ≤ ((2 : Int32)).toNatClampNeg) := inb_of S429 ⟨by decide, by decide⟩
  refine own_go (X428.aaload hx (j := (2 : Int32)) (v := (.ref r2)) (by rw [e428]; exact Ar429.1) (State.isArrayOf_alike hZ.alike Ar429.2.1) rfl Ar429.2.2 hin429 (Has.at Ha429 hin429 rfl) (g := (mkF m 5 #[.val (.ref li), .val (.int (2 : Int32))] [(.int (2 : Int32)), (.ref br)])) rfl rfl (hb hby d24_5)) ?_
  obtain ⟨fs, hr, hrun, hended, hW, hsame⟩ := X428.leave (v := some (.ref r2)) (fun h => by rw [Bd.returns] at h; cases h)
  refine ⟨_, _, ?_, hrun, hended, _, _, rfl, ?_, ⟨_, rfl⟩, hW, hsame.mono (by decide) (by decide)⟩
  · show Steps p.tables e below (T428.setTop (mkF m 6 #[.val (.ref li), .val (.int (2 : Int32))] [(.ref r2)])) _
    exact retOut X428 hx Bd.returns rfl (Or.inr (Or.inr (Or.inr (Or.inr ⟨rfl, rfl, rfl⟩)))) (hb hby d24_6) hr
  · show Qeld_2_3 Z li br kb r0 r1 r2 h0 n0 _ T428.heap _
    rw [e428]
    exact ⟨rfl, N0, rfl⟩
def Qget_2_3 (Z : State) (li : Addr) (br : Addr) (kb : ClassId) (r0 : Addr) (r1 : Addr) (r2 : Addr) (h0 : Heap) (n0 : Nat) (v : Option Value) (h : Heap) (L : List Loc) : Prop := v = some (.ref r2) ∧ Fr n0 L ∧ h = h0
theorem efget_2_3 (m : MethodId) (x0 : Addr) : entryFrame m #[(.ref x0), (.int (2 : Int32))] 2 = mkF m 0 #[.val (.ref x0), .val (.int (2 : Int32))] [] := by first | (simp [entryFrame, mkF, argsToLocals, Value.category]; done) | rfl
set_option maxRecDepth 65536 in
set_option maxHeartbeats 40000000 in
theorem get_2_3 (l : Launch) (Z : State) (a0 : Array Value) (hw : ∀ d ∈ tables_1, d.before a0 Z = true) (ws : List Jvm.Cond) (li : Addr) (br : Addr) (kb : ClassId) (r0 : Addr) (r1 : Addr) (r2 : Addr) (h0 : Heap) (n0 : Nat) (Z0 : n0 ≤ h0.size) (P0 : Exa Z h0 li "java/util/ArrayList") (P1 : Fld Z h0 li "java/util/ArrayList" "size" "I" (.int (3 : Int32))) (P2 : Fld Z h0 li "java/util/ArrayList" "elementData" "[Ljava/lang/Object;" (.ref br)) (P3 : Arv Z h0 br kb (.object "java/lang/Object") (10 : Int32) [(.ref r0), (.ref r1), (.ref r2), .null, .null, .null, .null, .null, .null, .null] .null) :
    MetFree l (⟨"java/util/ArrayList", "get", "(I)Ljava/lang/Object;"⟩ : MethodName) (head1 (Jvm.Cond.code (⟨"java/util/ArrayList", "get", "(I)Ljava/lang/Object;"⟩ : MethodName) jdk_38_method_20_code 2 (some (.object "java/lang/Object")) :: ws) ({ frames := 2, cells := 0, slots := 0, locals := 27 } : Room)) (fun a U => a = #[(.ref li), (.int (2 : Int32))] ∧ Z.Warmed39 U.vm ∧ U.heap = h0) (fun _ _ _ _ _ => True) (fun _ U o U' => ∃ v L, o = .returned v ∧ Qget_2_3 Z li br kb r0 r1 r2 h0 n0 v U'.heap L ∧ FrameEnd U o U' L ({ frames := 2, cells := 0, slots := 0, locals := 27 } : Room).cells ({ frames := 2, cells := 0, slots := 0, locals := 27 } : Room).slots) := by
  refine MetFree.of_bodySF (plainFor_of_name pn_5) hisR ?_
  intro p e s m args below meth c s₁ Bd hml0 hP hK
  obtain ⟨rfl, hZ, hh⟩ := hP
  have hx := Bd.exec
  have hby := Bd.bytes
  have hml : c.maxLocals = 2 := hml0
  have hown : s.vm.findClass "java/util/ArrayList" = some m.cls := findClass_of_methodNamed Bd.named
  have hnm := (name_of_methodNamed Bd.named Bd.method).1
  have X0 : Stand p l e ({ frames := 2, cells := 0, slots := 0, locals := 27 } : Room) s m #[(.ref li), (.int (2 : Int32))] below meth c s₁ [] 0 0 := Stand.of_body Bd
  have e0 : s₁.heap = h0 := by rw [← hh, Bd.state]; rfl
  have N0 := Fr.nil n0
  have K0 : Keep h0 h0 [] := Keep.refl h0 _
  refine own_go (B := s₁.setTop (mkF m 0 #[.val (.ref li), .val (.int (2 : Int32))] [])) (fun t k => castTop (efget_2_3 m li) k) ?_
  refine own_go (B := s₁.setTop (mkF m 2 #[.val (.ref li), .val (.int (2 : Int32))] [(.ref li), (.int (2 : Int32))])) (fun t k => ?_) ?_
  · refine XS.iloadN X0.here hx rfl (hb hby d21_0) rfl ?_
    refine XS.aloadN X0.here hx rfl (hb hby d21_1) rfl rfl ?_
    exact k
  obtain ⟨T430, X430, e430, st430⟩ := getF X0 hx hZ hown (host := "") (Or.inl (own_w hw 94 rfl)) Via.refl e0 P1 (g := (mkF m 2 #[.val (.ref li), .val (.int (2 : Int32))] [(.ref li), (.int (2 : Int32))])) rfl rfl (hb hby d21_2)
  refine own_go st430 ?_
  obtain ⟨_, _, ⟨T431, L431, k431, n431⟩, -, X431, ⟨Lc431, hQ431, l431, y431, z431⟩, st431⟩ := Jvm.LawKit.callS X430 hx (y := (⟨"java/util/Objects", "checkIndex", "(II)I"⟩ : MethodName)) hown (mvT hZ (own_w hw 137 rfl)) (mvT hZ (own_w hw 138 rfl)) (mvT hZ (own_w hw 139 rfl)) (mvT hZ (own_w hw 140 rfl)) (by decide) (backOf (W := 0) (oci_2_3 l Z a0 hw []  h0 n0 Z0 ) hZ (own_w hw 140 rfl) (own_w hw 139 rfl) (by decide) (by decide)) (g := (mkF m 5 #[.val (.ref li), .val (.int (2 : Int32))] [(.int (3 : Int32)), (.int (2 : Int32))])) rfl (by rw [hml]; rfl) (argsL := [(.int (2 : Int32)), (.int (3 : Int32))]) (rest := []) (lenOf pd_6 rfl) rfl (by show 2 * 0 + _ ≤ _; exact Nat.le_of_eq rfl) (hb hby d21_5) (fun _ _ => ⟨rfl, e430, (by decide : 0 + 0 ≤ _), (by decide : 0 + 0 ≤ _)⟩)
  dsimp only [Pt.U, Pt.locs, Pt.cells, Pt.slots] at X431 l431 y431 z431 st431 hQ431
  subst l431 y431 z431
  obtain ⟨rfl, Nq431, e431⟩ := hQ431
  have N431 := Fr.app N0 Nq431
  refine own_go (B := T431.setTop (mkF m 8 #[.val (.ref li), .val (.int (2 : Int32))] [(.int (2 : Int32))])) st431 ?_
  refine own_go (B := T431.setTop (mkF m 11 #[.val (.ref li), .val (.int (2 : Int32))] [(.int (2 : Int32)), (.ref li)])) (fun t k => ?_) ?_
  · refine XS.pop X431.here hx rfl (hb hby d21_8) rfl rfl ?_
    refine XS.aloadN X431.here hx rfl (hb hby d21_9) rfl rfl ?_
    refine XS.iloadN X431.here hx rfl (hb hby d21_10) rfl ?_
    exact k
  obtain ⟨cq432, kq432, q432a, q432b, q432c⟩ := isOf hZ e431 P0
  obtain ⟨_, _, ⟨T432, L432, k432, n432⟩, -, X432, ⟨Lc432, hQ432, l432, y432, z432⟩, st432⟩ := X431.virtualBack hx (y := (⟨"java/util/ArrayList", "elementData", "(I)Ljava/lang/Object;"⟩ : MethodName)) (z := (⟨"java/util/ArrayList", "elementData", "(I)Ljava/lang/Object;"⟩ : MethodName)) hown (mvT hZ (own_w hw 145 rfl)) (mvT hZ (own_w hw 146 rfl)) (notFace_of_selects (args := #[]) (mvT hZ (own_w hw 148 rfl))) (mvT hZ (own_w hw 148 rfl)) (mvT hZ (own_w hw 147 rfl)) (by decide) (backOf (W := 0) (eld_2_3 l Z a0 hw [] li br kb r0 r1 r2 h0 n0 Z0 P1 P2 P3) hZ (own_w hw 149 rfl) (own_w hw 39 rfl) (by decide) (by decide)) q432a q432c (g := (mkF m 11 #[.val (.ref li), .val (.int (2 : Int32))] [(.int (2 : Int32)), (.ref li)])) rfl (by rw [hml]; rfl) (Steps.refl _) (argsL := [(.int (2 : Int32))]) (rest := []) (lenOf pd_11 rfl) rfl (by show 2 * 0 + _ ≤ _; exact Nat.le_of_eq rfl) (hb hby d21_11) (fun _ _ => ⟨rfl, e431, (by decide : 0 + 0 ≤ _), (by decide : 0 + 0 ≤ _)⟩)
  dsimp only [Pt.U, Pt.locs, Pt.cells, Pt.slots] at X432 l432 y432 z432 st432 hQ432
  subst l432 y432 z432
  obtain ⟨rfl, Nq432, e432⟩ := hQ432
  have N432 := Fr.app N431 Nq432
  refine own_go (B := T432.setTop (mkF m 14 #[.val (.ref li), .val (.int (2 : Int32))] [(.ref r2)])) (fun t k => st432.trans k) ?_
  obtain ⟨fs, hr, hrun, hended, hW, hsame⟩ := X432.leave (v := some (.ref r2)) (fun h => by rw [Bd.returns] at h; cases h)
  refine ⟨_, _, ?_, hrun, hended, _, _, rfl, ?_, ⟨_, rfl⟩, hW, hsame.mono (by decide) (by decide)⟩
  · show Steps p.tables e below (T432.setTop (mkF m 14 #[.val (.ref li), .val (.int (2 : Int32))] [(.ref r2)])) _
    exact retOut X432 hx Bd.returns rfl (Or.inr (Or.inr (Or.inr (Or.inr ⟨rfl, rfl, rfl⟩)))) (hb hby d21_14) hr
  · show Qget_2_3 Z li br kb r0 r1 r2 h0 n0 _ T432.heap _
    rw [e432]
    exact ⟨rfl, N432, rfl⟩
def Qoem (Z : State) (oe : Addr) (h0 : Heap) (n0 : Nat) (v : Option Value) (h : Heap) (L : List Loc) : Prop := v = some (.ref oe) ∧ Fr n0 L ∧ h = h0
theorem efoem (m : MethodId)  : entryFrame m #[] 1 = mkF m 0 #[.unset] [] := by first | (simp [entryFrame, mkF, argsToLocals, Value.category]; done) | rfl
set_option maxRecDepth 65536 in
set_option maxHeartbeats 40000000 in
theorem oem (l : Launch) (Z : State) (a0 : Array Value) (hw : ∀ d ∈ tables_1, d.before a0 Z = true) (ws : List Jvm.Cond) (oe : Addr) (h0 : Heap) (n0 : Nat) (Z0 : n0 ≤ h0.size) (P0 : Sta Z h0 "java/util/Optional" "EMPTY" "Ljava/util/Optional;" (.ref oe)) :
    MetFree l (⟨"java/util/Optional", "empty", "()Ljava/util/Optional;"⟩ : MethodName) (head1 (Jvm.Cond.code (⟨"java/util/Optional", "empty", "()Ljava/util/Optional;"⟩ : MethodName) jdk_32_method_1_code 1 (some (.object "java/util/Optional")) :: ws) ({ frames := 0, cells := 0, slots := 0, locals := 0 } : Room)) (fun a U => a = #[] ∧ Z.Warmed39 U.vm ∧ U.heap = h0) (fun _ _ _ _ _ => True) (fun _ U o U' => ∃ v L, o = .returned v ∧ Qoem Z oe h0 n0 v U'.heap L ∧ FrameEnd U o U' L ({ frames := 0, cells := 0, slots := 0, locals := 0 } : Room).cells ({ frames := 0, cells := 0, slots := 0, locals := 0 } : Room).slots) := by
  refine MetFree.of_bodySF (plainFor_of_name pn_8) hisR ?_
  intro p e s m args below meth c s₁ Bd hml0 hP hK
  obtain ⟨rfl, hZ, hh⟩ := hP
  have hx := Bd.exec
  have hby := Bd.bytes
  have hml : c.maxLocals = 1 := hml0
  have hown : s.vm.findClass "java/util/Optional" = some m.cls := findClass_of_methodNamed Bd.named
  have hnm := (name_of_methodNamed Bd.named Bd.method).1
  have X0 : Stand p l e ({ frames := 0, cells := 0, slots := 0, locals := 0 } : Room) s m #[] below meth c s₁ [] 0 0 := Stand.of_body Bd
  have e0 : s₁.heap = h0 := by rw [← hh, Bd.state]; rfl
  have N0 := Fr.nil n0
  have K0 : Keep h0 h0 [] := Keep.refl h0 _
  refine own_go (B := s₁.setTop (mkF m 0 #[.unset] [])) (fun t k => castTop (efoem m ) k) ?_
  obtain ⟨T433, X433, e433, st433⟩ := getS2 X0 hx hZ hown (host := "") (Or.inl (own_w hw 71 rfl)) Via.refl e0 P0 (g := (mkF m 0 #[.unset] [])) rfl (hb hby d12_0)
  refine own_go st433 ?_
  refine own_go (B := T433.setTop (mkF m 5 #[.val (.ref oe)] [(.ref oe)])) (fun t k => ?_) ?_
  · refine XS.astoreN X433.here hx rfl (hb hby d12_3) rfl rfl (l' := #[.val (.ref oe)]) rfl ?_
    refine XS.aloadN X433.here hx rfl (hb hby d12_4) rfl rfl ?_
    exact k
  obtain ⟨fs, hr, hrun, hended, hW, hsame⟩ := X433.leave (v := some (.ref oe)) (fun h => by rw [Bd.returns] at h; cases h)
  refine ⟨_, _, ?_, hrun, hended, _, _, rfl, ?_, ⟨_, rfl⟩, hW, hsame.mono (by decide) (by decide)⟩
  · show Steps p.tables e below (T433.setTop (mkF m 5 #[.val (.ref oe)] [(.ref oe)])) _
    exact retOut X433 hx Bd.returns rfl (Or.inr (Or.inr (Or.inr (Or.inr ⟨rfl, rfl, rfl⟩)))) (hb hby d12_5) hr
  · show Qoem Z oe h0 n0 _ T433.heap _
    rw [e433]
    exact ⟨rfl, N0, rfl⟩
def QtmI (Z : State) (tt : Addr) (li : Addr) (oe : Addr) (h0 : Heap) (n0 : Nat) (v : Option Value) (h : Heap) (L : List Loc) : Prop := v = none ∧ Fr n0 L ∧ Keep h0 h [tt] ∧ Fld Z h tt "com/example/axiomwright/axiomwright/cli/Timings" "arguments" "Ljava/util/List;" (.ref li)
theorem eftmI (m : MethodId) (x0 : Addr) (x1 : Addr) (x2 : Addr) : entryFrame m #[(.ref x0), (.ref x1), (.ref x2)] 3 = mkF m 0 #[.val (.ref x0), .val (.ref x1), .val (.ref x2)] [] := by first | (simp [entryFrame, mkF, argsToLocals, Value.category]; done) | rfl
set_option maxRecDepth 65536 in
set_option maxHeartbeats 40000000 in
theorem tmI (l : Launch) (Z : State) (a0 : Array Value) (hw : ∀ d ∈ tables_1, d.before a0 Z = true) (ws : List Jvm.Cond) (tt : Addr) (li : Addr) (oe : Addr) (h0 : Heap) (n0 : Nat) (Z0 : n0 ≤ h0.size) (P0 : Exa Z h0 tt "com/example/axiomwright/axiomwright/cli/Timings") (P1 : Fld Z h0 tt "com/example/axiomwright/axiomwright/cli/Timings" "arguments" "Ljava/util/List;" .null) (P2 : Fld Z h0 tt "com/example/axiomwright/axiomwright/cli/Timings" "err" "Ljava/util/Optional;" .null) (g_tt : n0 ≤ tt) :
    MetFree l (⟨"com/example/axiomwright/axiomwright/cli/Timings", "<init>", "(Ljava/util/List;Ljava/util/Optional;)V"⟩ : MethodName) (head1 (Jvm.Cond.code (⟨"com/example/axiomwright/axiomwright/cli/Timings", "<init>", "(Ljava/util/List;Ljava/util/Optional;)V"⟩ : MethodName) prog_13_method_1_code 3 none :: ws) ({ frames := 1, cells := 0, slots := 0, locals := 12 } : Room)) (fun a U => a = #[(.ref tt), (.ref li), (.ref oe)] ∧ Z.Warmed39 U.vm ∧ U.heap = h0) (fun _ _ _ _ _ => True) (fun _ U o U' => ∃ v L, o = .returned v ∧ QtmI Z tt li oe h0 n0 v U'.heap L ∧ FrameEnd U o U' L ({ frames := 1, cells := 0, slots := 0, locals := 12 } : Room).cells ({ frames := 1, cells := 0, slots := 0, locals := 12 } : Room).slots) := by
  refine MetFree.of_bodySF (plainFor_of_name pn_9) hisR ?_
  intro p e s m args below meth c s₁ Bd hml0 hP hK
  obtain ⟨rfl, hZ, hh⟩ := hP
  have hx := Bd.exec
  have hby := Bd.bytes
  have hml : c.maxLocals = 3 := hml0
  have hown : s.vm.findClass "com/example/axiomwright/axiomwright/cli/Timings" = some m.cls := findClass_of_methodNamed Bd.named
  have hnm := (name_of_methodNamed Bd.named Bd.method).1
  have X0 : Stand p l e ({ frames := 1, cells := 0, slots := 0, locals := 12 } : Room) s m #[(.ref tt), (.ref li), (.ref oe)] below meth c s₁ [] 0 0 := Stand.of_body Bd
  have e0 : s₁.heap = h0 := by rw [← hh, Bd.state]; rfl
  have N0 := Fr.nil n0
  have K0 : Keep h0 h0 [tt] := Keep.refl h0 _
  refine own_go (B := s₁.setTop (mkF m 0 #[.val (.ref tt), .val (.ref li), .val (.ref oe)] [])) (fun t k => castTop (eftmI m tt li oe) k) ?_
  refine own_go (B := s₁.setTop (mkF m 1 #[.val (.ref tt), .val (.ref li), .val (.ref oe)] [(.ref tt)])) (fun t k => ?_) ?_
  · refine XS.aloadN X0.here hx rfl (hb hby d13_0) rfl rfl ?_
    exact k
  obtain ⟨T434, X434, e434, st434⟩ := initO X0 hx hZ hown (own_w hw 75 rfl) (own_w hw 22 rfl) (own_w hw 23 rfl) e0 (g := (mkF m 1 #[.val (.ref tt), .val (.ref li), .val (.ref oe)] [(.ref tt)])) rfl (by rw [hml]; rfl) rfl (hb hby d13_1) (by decide) (W := 0) (by show 2 * 0 + _ ≤ _; exact Nat.le_of_eq rfl) (by decide)
  refine own_go st434 ?_
  refine own_go (B := T434.setTop (mkF m 6 #[.val (.ref tt), .val (.ref li), .val (.ref oe)] [(.ref li), (.ref tt)])) (fun t k => ?_) ?_
  · refine XS.aloadN X434.here hx rfl (hb hby d13_4) rfl rfl ?_
    refine XS.aloadN X434.here hx rfl (hb hby d13_5) rfl rfl ?_
    exact k
  obtain ⟨T435, h435, X435, e435, W435, st435⟩ := putF X434 hx hZ hown (host := "") (Or.inl (own_w hw 76 rfl)) Via.refl e434 P1 P0 (Or.inr ⟨(own_w hw 77 rfl), rfl, hnm⟩) (own_w hw 66 rfl) (ty := (.object "java/util/List")) (by decide) rfl rfl (g := (mkF m 6 #[.val (.ref tt), .val (.ref li), .val (.ref oe)] [(.ref li), (.ref tt)])) rfl rfl (hb hby d13_6)
  have Q436 : Exa Z h435 tt "com/example/axiomwright/axiomwright/cli/Timings" := P0.wr W435
  have Q437 : Fld Z h435 tt "com/example/axiomwright/axiomwright/cli/Timings" "err" "Ljava/util/Optional;" .null := P2.other W435 (Or.inr (slot_ne (Or.inr (own_w hw 79 rfl)) (Or.inr (own_w hw 77 rfl)) (by decide) (t := (.object "java/util/Optional")) (t' := (.object "java/util/List")) (by decide) (by decide)))
  have U435 : Fld Z h435 tt "com/example/axiomwright/axiomwright/cli/Timings" "arguments" "Ljava/util/List;" (.ref li) := P1.same W435
  have Z435 : n0 ≤ h435.size := Nat.le_trans Z0 (Keep.of_wr W435).1
  have N435 := Fr.snoc X435 N0 g_tt
  have K435 := K0.wr W435 (Or.inl (List.mem_of_getElem? (i := 0) rfl))
  refine own_go st435 ?_
  refine own_go (B := T435.setTop (mkF m 11 #[.val (.ref tt), .val (.ref li), .val (.ref oe)] [(.ref oe), (.ref tt)])) (fun t k => ?_) ?_
  · refine XS.aloadN X435.here hx rfl (hb hby d13_9) rfl rfl ?_
    refine XS.aloadN X435.here hx rfl (hb hby d13_10) rfl rfl ?_
    exact k
  obtain ⟨T438, h438, X438, e438, W438, st438⟩ := putF X435 hx hZ hown (host := "") (Or.inl (own_w hw 78 rfl)) Via.refl e435 Q437 Q436 (Or.inr ⟨(own_w hw 79 rfl), rfl, hnm⟩) (own_w hw 66 rfl) (ty := (.object "java/util/Optional")) (by decide) rfl rfl (g := (mkF m 11 #[.val (.ref tt), .val (.ref li), .val (.ref oe)] [(.ref oe), (.ref tt)])) rfl rfl (hb hby d13_11)
  have Q439 : Exa Z h438 tt "com/example/axiomwright/axiomwright/cli/Timings" := Q436.wr W438
  have Q440 : Fld Z h438 tt "com/example/axiomwright/axiomwright/cli/Timings" "arguments" "Ljava/util/List;" (.ref li) := U435.other W438 (Or.inr (slot_ne (Or.inr (own_w hw 77 rfl)) (Or.inr (own_w hw 79 rfl)) (by decide) (t := (.object "java/util/List")) (t' := (.object "java/util/Optional")) (by decide) (by decide)))
  have U438 : Fld Z h438 tt "com/example/axiomwright/axiomwright/cli/Timings" "err" "Ljava/util/Optional;" (.ref oe) := Q437.same W438
  have Z438 : n0 ≤ h438.size := Nat.le_trans Z435 (Keep.of_wr W438).1
  have N438 := Fr.snoc X438 N435 g_tt
  have K438 := K435.wr W438 (Or.inl (List.mem_of_getElem? (i := 0) rfl))
  refine own_go st438 ?_
  obtain ⟨fs, hr, hrun, hended, hW, hsame⟩ := X438.leave (v := none) (fun _ => rfl)
  refine ⟨_, _, ?_, hrun, hended, _, _, rfl, ?_, ⟨_, rfl⟩, hW, hsame.mono (by decide) (by decide)⟩
  · show Steps p.tables e below (T438.setTop (mkF m 14 #[.val (.ref tt), .val (.ref li), .val (.ref oe)] [])) _
    exact X438.returnOut hx Bd.returns (hb hby d13_14) hr
  · show QtmI Z tt li oe h0 n0 _ T438.heap _
    rw [e438]
    exact ⟨rfl, N438, K438, Q440⟩
def Qnon (Z : State) (li : Addr) (oe : Addr) (h0 : Heap) (n0 : Nat) (v : Option Value) (h : Heap) (L : List Loc) : Prop := ∃ tt : Addr, v = some (.ref tt) ∧ Fr n0 L ∧ Keep h0 h [] ∧ h0.size ≤ tt ∧ Exa Z h tt "com/example/axiomwright/axiomwright/cli/Timings" ∧ Fld Z h tt "com/example/axiomwright/axiomwright/cli/Timings" "arguments" "Ljava/util/List;" (.ref li)
theorem efnon (m : MethodId) (x0 : Addr) : entryFrame m #[(.ref x0)] 1 = mkF m 0 #[.val (.ref x0)] [] := by first | (simp [entryFrame, mkF, argsToLocals, Value.category]; done) | rfl
set_option maxRecDepth 65536 in
set_option maxHeartbeats 40000000 in
theorem non (l : Launch) (Z : State) (a0 : Array Value) (hw : ∀ d ∈ tables_1, d.before a0 Z = true) (ws : List Jvm.Cond) (li : Addr) (oe : Addr) (h0 : Heap) (n0 : Nat) (Z0 : n0 ≤ h0.size) (P0 : Sta Z h0 "java/util/Optional" "EMPTY" "Ljava/util/Optional;" (.ref oe)) :
    MetFree l (⟨"com/example/axiomwright/axiomwright/cli/Timings", "none", "(Ljava/util/List;)Lcom/example/axiomwright/axiomwright/cli/Timings;"⟩ : MethodName) (head1 (Jvm.Cond.code (⟨"com/example/axiomwright/axiomwright/cli/Timings", "none", "(Ljava/util/List;)Lcom/example/axiomwright/axiomwright/cli/Timings;"⟩ : MethodName) prog_13_method_2_code 1 (some (.object "com/example/axiomwright/axiomwright/cli/Timings")) :: ws) ({ frames := 2, cells := 1, slots := 2, locals := 27 } : Room)) (fun a U => a = #[(.ref li)] ∧ Z.Warmed39 U.vm ∧ U.heap = h0) (fun _ _ _ _ _ => True) (fun _ U o U' => ∃ v L, o = .returned v ∧ Qnon Z li oe h0 n0 v U'.heap L ∧ FrameEnd U o U' L ({ frames := 2, cells := 1, slots := 2, locals := 27 } : Room).cells ({ frames := 2, cells := 1, slots := 2, locals := 27 } : Room).slots) := by
  refine MetFree.of_bodySF (plainFor_of_name pn_9) hisR ?_
  intro p e s m args below meth c s₁ Bd hml0 hP hK
  obtain ⟨rfl, hZ, hh⟩ := hP
  have hx := Bd.exec
  have hby := Bd.bytes
  have hml : c.maxLocals = 1 := hml0
  have hown : s.vm.findClass "com/example/axiomwright/axiomwright/cli/Timings" = some m.cls := findClass_of_methodNamed Bd.named
  have hnm := (name_of_methodNamed Bd.named Bd.method).1
  have X0 : Stand p l e ({ frames := 2, cells := 1, slots := 2, locals := 27 } : Room) s m #[(.ref li)] below meth c s₁ [] 0 0 := Stand.of_body Bd
  have e0 : s₁.heap = h0 := by rw [← hh, Bd.state]; rfl
  have N0 := Fr.nil n0
  have K0 : Keep h0 h0 [] := Keep.refl h0 _
  refine own_go (B := s₁.setTop (mkF m 0 #[.val (.ref li)] [])) (fun t k => castTop (efnon m li) k) ?_
  obtain ⟨T441, h441, X441, e441, E441, A441, D441, -, st441⟩ := newO X0 hx hZ hown (own_w hw 65 rfl) (own_w hw 66 rfl) (own_w hw 63 rfl) e0 (g := (mkF m 0 #[.val (.ref li)] [])) rfl (hb hby d11_0) (by decide) (by decide)
  obtain ⟨b441, g441⟩ : ∃ z, z = h0.size := ⟨_, rfl⟩
  rw [← g441] at A441 D441 st441
  have low441 : n0 ≤ b441 := Nat.le_trans Z0 (Nat.le_of_eq g441.symm)
  have sz441 : h0.size ≤ b441 := Nat.le_trans K0.1 (Nat.le_of_eq g441.symm)
  have Q442 : Sta Z h441 "java/util/Optional" "EMPTY" "Ljava/util/Optional;" (.ref oe) := P0.ext E441
  have Z441 : n0 ≤ h441.size := Nat.le_trans Z0 E441.1
  have K441 := K0.ext E441
  have D441_arguments_Timings : Fld Z h441 b441 "com/example/axiomwright/axiomwright/cli/Timings" "arguments" "Ljava/util/List;" .null := D441 (Or.inr (own_w hw 77 rfl)) (ty := (.object "java/util/List")) (by decide)
  have D441_err_Timings : Fld Z h441 b441 "com/example/axiomwright/axiomwright/cli/Timings" "err" "Ljava/util/Optional;" .null := D441 (Or.inr (own_w hw 79 rfl)) (ty := (.object "java/util/Optional")) (by decide)
  refine own_go st441 ?_
  refine own_go (B := T441.setTop (mkF m 5 #[.val (.ref li)] [(.ref li), (.ref b441), (.ref b441)])) (fun t k => ?_) ?_
  · refine XS.dup X441.here hx rfl (hb hby d11_3) rfl rfl ?_
    refine XS.aloadN X441.here hx rfl (hb hby d11_4) rfl rfl ?_
    exact k
  obtain ⟨_, _, ⟨T443, L443, k443, n443⟩, -, X443, ⟨Lc443, hQ443, l443, y443, z443⟩, st443⟩ := Jvm.LawKit.callS X441 hx (y := (⟨"java/util/Optional", "empty", "()Ljava/util/Optional;"⟩ : MethodName)) hown (mvT hZ (own_w hw 67 rfl)) (mvT hZ (own_w hw 68 rfl)) (mvT hZ (own_w hw 69 rfl)) (mvT hZ (own_w hw 70 rfl)) (by decide) (backOf (W := 3) (oem l Z a0 hw [] oe h441 n0 Z441 Q442) hZ (own_w hw 70 rfl) (own_w hw 69 rfl) (by decide) (by decide)) (g := (mkF m 5 #[.val (.ref li)] [(.ref li), (.ref b441), (.ref b441)])) rfl (by rw [hml]; rfl) (argsL := []) (rest := [(.ref li), (.ref b441), (.ref b441)]) (lenOf pd_12 rfl) rfl (by show 2 * 0 + _ ≤ _; exact Nat.le_of_eq rfl) (hb hby d11_5) (fun _ _ => ⟨rfl, e441, (by decide : 1 + 0 ≤ _), (by decide : 2 + 0 ≤ _)⟩)
  dsimp only [Pt.U, Pt.locs, Pt.cells, Pt.slots] at X443 l443 y443 z443 st443 hQ443
  subst l443 y443 z443
  obtain ⟨rfl, Nq443, e443⟩ := hQ443
  have N443 := Fr.app N0 Nq443
  refine own_go (B := T443.setTop (mkF m 8 #[.val (.ref li)] [(.ref oe), (.ref li), (.ref b441), (.ref b441)])) st443 ?_
  obtain ⟨_, _, ⟨T444, L444, k444, n444⟩, -, X444, ⟨Lc444, hQ444, l444, y444, z444⟩, st444⟩ := X443.specialBack hx (y := (⟨"com/example/axiomwright/axiomwright/cli/Timings", "<init>", "(Ljava/util/List;Ljava/util/Optional;)V"⟩ : MethodName)) rfl hown (mvT hZ (own_w hw 72 rfl)) (mvT hZ (own_w hw 73 rfl)) (mvT hZ (own_w hw 74 rfl)) (by decide) (backOf (W := 1) (tmI l Z a0 hw [] b441 li oe h441 n0 Z441 A441 D441_arguments_Timings D441_err_Timings low441) hZ (own_w hw 74 rfl) (own_w hw 63 rfl) (by decide) (by decide)) (g := (mkF m 8 #[.val (.ref li)] [(.ref oe), (.ref li), (.ref b441), (.ref b441)])) rfl (by rw [hml]; rfl) (Steps.refl _) (a := b441) (argsL := [(.ref li), (.ref oe)]) (rest := [(.ref b441)]) (lenOf pd_13 rfl) rfl (by show 2 * 0 + _ ≤ _; exact Nat.le_of_eq rfl) (hb hby d11_8) (fun _ _ => ⟨rfl, e443, (by decide : 1 + 0 ≤ _), (by decide : 2 + 0 ≤ _)⟩)
  dsimp only [Pt.U, Pt.locs, Pt.cells, Pt.slots] at X444 l444 y444 z444 st444 hQ444
  subst l444 y444 z444
  obtain ⟨rfl, Nq444, Kq444, U444_0⟩ := hQ444
  have Q445 : Sta Z T444.heap "java/util/Optional" "EMPTY" "Ljava/util/Optional;" (.ref oe) := own_staK Q442 Kq444 (nsS (own_nsE A441) ns0)
  have Q446 : Exa Z T444.heap b441 "com/example/axiomwright/axiomwright/cli/Timings" := A441.keep Kq444
  have Z444 : n0 ≤ T444.heap.size := Nat.le_trans Z441 Kq444.1
  have K444 : Keep h0 T444.heap [] := K441.trans Kq444 (allS (Or.inr sz441) all0)
  have N444 := Fr.app N443 Nq444
  refine own_go (B := T444.setTop (mkF m 11 #[.val (.ref li)] [(.ref b441)])) (fun t k => st444.trans k) ?_
  obtain ⟨fs, hr, hrun, hended, hW, hsame⟩ := X444.leave (v := some (.ref b441)) (fun h => by rw [Bd.returns] at h; cases h)
  refine ⟨_, _, ?_, hrun, hended, _, _, rfl, ?_, ⟨_, rfl⟩, hW, hsame.mono (by decide) (by decide)⟩
  · show Steps p.tables e below (T444.setTop (mkF m 11 #[.val (.ref li)] [(.ref b441)])) _
    exact retOut X444 hx Bd.returns rfl (Or.inr (Or.inr (Or.inr (Or.inr ⟨rfl, rfl, rfl⟩)))) (hb hby d11_11) hr
  · show Qnon Z li oe h0 n0 _ T444.heap _
    skip
    exact ⟨b441, rfl, N444, K444, sz441, Q446, U444_0⟩
def Qarg (Z : State) (tt : Addr) (li : Addr) (h0 : Heap) (n0 : Nat) (v : Option Value) (h : Heap) (L : List Loc) : Prop := v = some (.ref li) ∧ Fr n0 L ∧ h = h0
theorem efarg (m : MethodId) (x0 : Addr) : entryFrame m #[(.ref x0)] 1 = mkF m 0 #[.val (.ref x0)] [] := by first | (simp [entryFrame, mkF, argsToLocals, Value.category]; done) | rfl
set_option maxRecDepth 65536 in
set_option maxHeartbeats 40000000 in
theorem arg (l : Launch) (Z : State) (a0 : Array Value) (hw : ∀ d ∈ tables_1, d.before a0 Z = true) (ws : List Jvm.Cond) (tt : Addr) (li : Addr) (h0 : Heap) (n0 : Nat) (Z0 : n0 ≤ h0.size) (P0 : Exa Z h0 tt "com/example/axiomwright/axiomwright/cli/Timings") (P1 : Fld Z h0 tt "com/example/axiomwright/axiomwright/cli/Timings" "arguments" "Ljava/util/List;" (.ref li)) :
    MetFree l (⟨"com/example/axiomwright/axiomwright/cli/Timings", "arguments", "()Ljava/util/List;"⟩ : MethodName) (head1 (Jvm.Cond.code (⟨"com/example/axiomwright/axiomwright/cli/Timings", "arguments", "()Ljava/util/List;"⟩ : MethodName) prog_13_method_4_code 1 (some (.object "java/util/List")) :: ws) ({ frames := 0, cells := 0, slots := 0, locals := 0 } : Room)) (fun a U => a = #[(.ref tt)] ∧ Z.Warmed39 U.vm ∧ U.heap = h0) (fun _ _ _ _ _ => True) (fun _ U o U' => ∃ v L, o = .returned v ∧ Qarg Z tt li h0 n0 v U'.heap L ∧ FrameEnd U o U' L ({ frames := 0, cells := 0, slots := 0, locals := 0 } : Room).cells ({ frames := 0, cells := 0, slots := 0, locals := 0 } : Room).slots) := by
  refine MetFree.of_bodySF (plainFor_of_name pn_9) hisR ?_
  intro p e s m args below meth c s₁ Bd hml0 hP hK
  obtain ⟨rfl, hZ, hh⟩ := hP
  have hx := Bd.exec
  have hby := Bd.bytes
  have hml : c.maxLocals = 1 := hml0
  have hown : s.vm.findClass "com/example/axiomwright/axiomwright/cli/Timings" = some m.cls := findClass_of_methodNamed Bd.named
  have hnm := (name_of_methodNamed Bd.named Bd.method).1
  have X0 : Stand p l e ({ frames := 0, cells := 0, slots := 0, locals := 0 } : Room) s m #[(.ref tt)] below meth c s₁ [] 0 0 := Stand.of_body Bd
  have e0 : s₁.heap = h0 := by rw [← hh, Bd.state]; rfl
  have N0 := Fr.nil n0
  have K0 : Keep h0 h0 [] := Keep.refl h0 _
  refine own_go (B := s₁.setTop (mkF m 0 #[.val (.ref tt)] [])) (fun t k => castTop (efarg m tt) k) ?_
  refine own_go (B := s₁.setTop (mkF m 1 #[.val (.ref tt)] [(.ref tt)])) (fun t k => ?_) ?_
  · refine XS.aloadN X0.here hx rfl (hb hby d14_0) rfl rfl ?_
    exact k
  obtain ⟨T447, X447, e447, st447⟩ := getF X0 hx hZ hown (host := "") (Or.inl (own_w hw 76 rfl)) Via.refl e0 P1 (g := (mkF m 1 #[.val (.ref tt)] [(.ref tt)])) rfl rfl (hb hby d14_1)
  refine own_go st447 ?_
  obtain ⟨fs, hr, hrun, hended, hW, hsame⟩ := X447.leave (v := some (.ref li)) (fun h => by rw [Bd.returns] at h; cases h)
  refine ⟨_, _, ?_, hrun, hended, _, _, rfl, ?_, ⟨_, rfl⟩, hW, hsame.mono (by decide) (by decide)⟩
  · show Steps p.tables e below (T447.setTop (mkF m 4 #[.val (.ref tt)] [(.ref li)])) _
    exact retOut X447 hx Bd.returns rfl (Or.inr (Or.inr (Or.inr (Or.inr ⟨rfl, rfl, rfl⟩)))) (hb hby d14_4) hr
  · show Qarg Z tt li h0 n0 _ T447.heap _
    rw [e447]
    exact ⟨rfl, N0, rfl⟩
def Qeqs (Z : State) (pp : Addr) (qq : Addr) (h0 : Heap) (n0 : Nat) (v : Option Value) (h : Heap) (L : List Loc) : Prop := v = some (.int (1 : Int32)) ∧ Fr n0 L ∧ h = h0
theorem efeqs (m : MethodId) (x0 : Addr) (x1 : Addr) : entryFrame m #[(.ref x0), (.ref x1)] 3 = mkF m 0 #[.val (.ref x0), .val (.ref x1), .unset] [] := by first | (simp [entryFrame, mkF, argsToLocals, Value.category]; done) | rfl
set_option maxRecDepth 65536 in
set_option maxHeartbeats 40000000 in
theorem eqs (l : Launch) (Z : State) (a0 : Array Value) (hw : ∀ d ∈ tables_1, d.before a0 Z = true) (ws : List Jvm.Cond) (pp : Addr) (qq : Addr) (h0 : Heap) (n0 : Nat) (Z0 : n0 ≤ h0.size) (hpq : pp = qq) :
    MetFree l (⟨"java/lang/String", "equals", "(Ljava/lang/Object;)Z"⟩ : MethodName) (head1 (Jvm.Cond.code (⟨"java/lang/String", "equals", "(Ljava/lang/Object;)Z"⟩ : MethodName) jdk_42_method_66_code 3 (some .boolean) :: ws) ({ frames := 0, cells := 0, slots := 0, locals := 0 } : Room)) (fun a U => a = #[(.ref pp), (.ref qq)] ∧ Z.Warmed39 U.vm ∧ U.heap = h0) (fun _ _ _ _ _ => True) (fun _ U o U' => ∃ v L, o = .returned v ∧ Qeqs Z pp qq h0 n0 v U'.heap L ∧ FrameEnd U o U' L ({ frames := 0, cells := 0, slots := 0, locals := 0 } : Room).cells ({ frames := 0, cells := 0, slots := 0, locals := 0 } : Room).slots) := by
  refine MetFree.of_bodySF (plainFor_of_name pn_1) hisR ?_
  intro p e s m args below meth c s₁ Bd hml0 hP hK
  obtain ⟨rfl, hZ, hh⟩ := hP
  have hx := Bd.exec
  have hby := Bd.bytes
  have hml : c.maxLocals = 3 := hml0
  have hown : s.vm.findClass "java/lang/String" = some m.cls := findClass_of_methodNamed Bd.named
  have hnm := (name_of_methodNamed Bd.named Bd.method).1
  have X0 : Stand p l e ({ frames := 0, cells := 0, slots := 0, locals := 0 } : Room) s m #[(.ref pp), (.ref qq)] below meth c s₁ [] 0 0 := Stand.of_body Bd
  have e0 : s₁.heap = h0 := by rw [← hh, Bd.state]; rfl
  have N0 := Fr.nil n0
  have K0 : Keep h0 h0 [] := Keep.refl h0 _
  refine own_go (B := s₁.setTop (mkF m 0 #[.val (.ref pp), .val (.ref qq), .unset] [])) (fun t k => castTop (efeqs m pp qq) k) ?_
  refine own_go (B := s₁.setTop (mkF m 2 #[.val (.ref pp), .val (.ref qq), .unset] [(.ref qq), (.ref pp)])) (fun t k => ?_) ?_
  · refine XS.aloadN X0.here hx rfl (hb hby d25_0) rfl rfl ?_
    refine XS.aloadN X0.here hx rfl (hb hby d25_1) rfl rfl ?_
    exact k
  by_cases hc2_448 : pp = qq
  · refine own_go (B := s₁.setTop (mkF m 5 #[.val (.ref pp), .val (.ref qq), .unset] [])) (fun t k => ?_) ?_
    · refine Jvm.RoadKit.acmp (g := (mkF m 2 #[.val (.ref pp), .val (.ref qq), .unset] [(.ref qq), (.ref pp)])) X0 hx rfl rfl rfl (pc0 := 2) (pc' := 5) (same := true) rfl (hb hby d25_2) rfl (decide_eq_true (congrArg Value.ref hc2_448)) (by decide) (by decide) ?_
      exact k
    refine own_go (B := s₁.setTop (mkF m 6 #[.val (.ref pp), .val (.ref qq), .unset] [(.int (1 : Int32))])) (fun t k => ?_) ?_
    · refine XS.iconst X0.here hx rfl (hb hby d25_5) ?_
      exact k
    obtain ⟨fs, hr, hrun, hended, hW, hsame⟩ := X0.leave (v := some (.int (1 : Int32))) (fun h => by rw [Bd.returns] at h; cases h)
    refine ⟨_, _, ?_, hrun, hended, _, _, rfl, ?_, ⟨_, rfl⟩, hW, hsame.mono (by decide) (by decide)⟩
    · show Steps p.tables e below (s₁.setTop (mkF m 6 #[.val (.ref pp), .val (.ref qq), .unset] [(.int (1 : Int32))])) _
      exact retN X0 hx (t := .boolean) Bd.returns (by simp) (hb hby d25_6) hr
    · show Qeqs Z pp qq h0 n0 _ s₁.heap _
      rw [e0]
      exact ⟨rfl, N0, rfl⟩
  · exact absurd hpq hc2_448
def Qrm0 (Z : State) (p1 : Int32) (p2 : Int32) (p3 : Int32) (p4 : Int32) (cs : Int32) (de : Addr) (kd : ClassId) (oe : Addr) (h0 : Heap) (n0 : Nat) (v : Option Value) (h : Heap) (L : List Loc) : Prop := v = some (.int (1 : Int32)) ∧ Fr n0 L
theorem efrm0 (m : MethodId) (x0 : Int32) (x1 : Int32) (x2 : Int32) (x3 : Int32) : entryFrame m #[(.int x0), (.int x1), (.int x2), (.int x3)] maxLocals = mkF m 0 #[.val (.int x0), .val (.int x1), .val (.int x2), .val (.int x3), .unset, .unset, .unset, .unset, .unset, .unset] [] := by first | (simp [entryFrame, mkF, argsToLocals, Value.category, maxLocals]; done) | rfl
set_option maxRecDepth 65536 in
set_option maxHeartbeats 40000000 in
theorem rm0 (l : Launch) (Z : State) (a0 : Array Value) (hw : ∀ d ∈ tables_1, d.before a0 Z = true) (ws : List Jvm.Cond) (p1 : Int32) (p2 : Int32) (p3 : Int32) (p4 : Int32) (cs : Int32) (de : Addr) (kd : ClassId) (oe : Addr) (h0 : Heap) (n0 : Nat) (Z0 : n0 ≤ h0.size) (hEL : EW Z a0 consts_1) (P0 : Sta Z h0 "java/lang/String" "COMPACT_STRINGS" "Z" (.int cs)) (P1 : Sta Z h0 "java/util/ArrayList" "DEFAULTCAPACITY_EMPTY_ELEMENTDATA" "[Ljava/lang/Object;" (.ref de)) (P2 : Arv Z h0 de kd (.object "java/lang/Object") (0 : Int32) [] .null) (P3 : Sta Z h0 "java/util/Optional" "EMPTY" "Ljava/util/Optional;" (.ref oe)) (hcs : cs ≠ (0 : Int32)) :
    MetFree l x (head1 (Jvm.Cond.code x code maxLocals ret :: ws) room_1) (fun a U => a = #[(.int p1), (.int p2), (.int p3), (.int p4)] ∧ Z.Warmed39 U.vm ∧ U.heap = h0 ∧ CHv Z consts_1 U.vm h0) (fun _ _ _ _ _ => True) (fun _ U o U' => ∃ v L, o = .returned v ∧ Qrm0 Z p1 p2 p3 p4 cs de kd oe h0 n0 v U'.heap L ∧ ReturnedEndW U o U' L room_1.cells room_1.slots) := by
  refine MetFree.of_bodySF (plainFor_of_name pn_2) hisR ?_
  intro p e s m args below meth c s₁ Bd hml0 hP hK
  obtain ⟨rfl, hZ, hh, hC⟩ := hP
  have hx := Bd.exec
  have hby := Bd.bytes
  have hml : c.maxLocals = 10 := hml0
  have hown : s.vm.findClass "com/example/axiomwright/axiomwright/cli/TimingsNonePinLaw" = some m.cls := findClass_of_methodNamed Bd.named
  have hnm := (name_of_methodNamed Bd.named Bd.method).1
  have X0 : Stand p l e room_1 (s.setVm s.vm) m #[(.int p1), (.int p2), (.int p3), (.int p4)] below meth c s₁ [] 0 0 := Stand.of_body Bd
  have e0 : s₁.heap = h0 := by rw [← hh, Bd.state]; rfl
  have N0 := Fr.nil n0
  have K0 : Keep h0 h0 [] := Keep.refl h0 _
  have hC0 : CHr Z consts_1 s.vm h0 s.vm h0 := CHr.refl hC
  have hS0 : s.Since s.vm h0.size := (State.WarmedH.refl s).since _
  have hk0 : h0.size ≤ h0.size := Nat.le_refl _
  refine own_go (B := s₁.setTop (mkF m 0 #[.val (.int p1), .val (.int p2), .val (.int p3), .val (.int p4), .unset, .unset, .unset, .unset, .unset, .unset] [])) (fun t k => castTop (efrm0 m p1 p2 p3 p4) k) ?_
  refine own_go (B := s₁.setTop (mkF m 6 #[.val (.int p1), .val (.int p2), .val (.int p3), .val (.int p4), .val (.int (p1 &&& (3 : Int32))), .unset, .unset, .unset, .unset, .unset] [(.int p2)])) (fun t k => ?_) ?_
  · refine XS.iloadN X0.here hx rfl (hb hby at_0) rfl ?_
    refine XS.iconst X0.here hx rfl (hb hby at_1) ?_
    refine XS.iand X0.here hx rfl (hb hby at_2) rfl ?_
    refine XS.istore X0.here hx rfl (hb hby at_3) rfl (l' := #[.val (.int p1), .val (.int p2), .val (.int p3), .val (.int p4), .val (.int (p1 &&& (3 : Int32))), .unset, .unset, .unset, .unset, .unset]) rfl ?_
    refine XS.iloadN X0.here hx rfl (hb hby at_5) rfl ?_
    exact k
  obtain ⟨_, _, ⟨T449, L449, k449, n449⟩, -, X449, hSq449, gr449, ⟨Lc449, hQ449, l449, y449, z449, CHq449⟩, st449⟩ := callSS X0 hx (y := (⟨"com/example/axiomwright/axiomwright/cli/TimingsNonePinLaw", "element", "(I)Ljava/lang/String;"⟩ : MethodName)) hown (mvT hZ (own_w hw 0 rfl)) (mvT hZ (own_w hw 1 rfl)) (mvT hZ (own_w hw 2 rfl)) (mvT hZ (own_w hw 3 rfl)) (by decide) (backOfSH (W := 0) (s := s) (vm0 := s.vm) (elt l Z a0 hw [] p2 cs h0 n0 Z0 hEL P0 hcs) hZ (own_w hw 3 rfl) (own_w hw 2 rfl) (by decide) (by decide) hEL hC0.1) (g := (mkF m 6 #[.val (.int p1), .val (.int p2), .val (.int p3), .val (.int p4), .val (.int (p1 &&& (3 : Int32))), .unset, .unset, .unset, .unset, .unset] [(.int p2)])) rfl (by rw [hml]; rfl) (argsL := [(.int p2)]) (rest := []) (lenOf pd_14 rfl) rfl (by show 2 * 0 + _ ≤ _; exact Nat.le_of_eq rfl) (hb hby at_6) (fun _ _ => ⟨rfl, e0, (by decide : 0 + 6 ≤ _), (by decide : 0 + 40 ≤ _)⟩)
  dsimp only [Pt.U, Pt.locs, Pt.cells, Pt.slots] at X449 l449 y449 z449 st449 hQ449 hSq449 gr449 CHq449
  subst l449 y449 z449
  have CH449 := hC0.trans CHq449
  have hS449 : s.Since T449.vm T449.heap.size := foldS (T := s₁) hS0 (by rw [e0]; exact hk0) hSq449 gr449
  have hkq449 : T449.heap.size ≤ T449.heap.size := Nat.le_refl _
  have hZ : Z.Warmed39 (s.setVm T449.vm).vm := State.Warmed39.trans (t := s.setVm s.vm) hZ hSq449.1
  have hown : (s.setVm T449.vm).vm.findClass "com/example/axiomwright/axiomwright/cli/TimingsNonePinLaw" = some m.cls := by rw [show (s.setVm T449.vm).vm = T449.vm from rfl, hSq449.1.alike.findClass]; exact hown
  have X449 : Stand p l e room_1 (s.setVm T449.vm) m #[(.int p1), (.int p2), (.int p3), (.int p4)] below meth c T449 _ _ _ := X449
  obtain ⟨rr_449, rfl, Nq449, Kq449, U449_0⟩ := hQ449
  have Q450 : Sta Z T449.heap "java/lang/String" "COMPACT_STRINGS" "Z" (.int cs) := P0.ext (own_extK Kq449)
  have Q451 : Sta Z T449.heap "java/util/ArrayList" "DEFAULTCAPACITY_EMPTY_ELEMENTDATA" "[Ljava/lang/Object;" (.ref de) := P1.ext (own_extK Kq449)
  have Q452 : Arv Z T449.heap de kd (.object "java/lang/Object") (0 : Int32) [] .null := P2.ext (own_extK Kq449)
  have Q453 : Sta Z T449.heap "java/util/Optional" "EMPTY" "Ljava/util/Optional;" (.ref oe) := P3.ext (own_extK Kq449)
  have Z449 : n0 ≤ T449.heap.size := Nat.le_trans Z0 Kq449.1
  have N449 := Fr.app N0 Nq449
  refine own_go (B := T449.setTop (mkF m 9 #[.val (.int p1), .val (.int p2), .val (.int p3), .val (.int p4), .val (.int (p1 &&& (3 : Int32))), .unset, .unset, .unset, .unset, .unset] [(.ref rr_449)])) (fun t k => st449.trans k) ?_
  refine own_go (B := T449.setTop (mkF m 12 #[.val (.int p1), .val (.int p2), .val (.int p3), .val (.int p4), .val (.int (p1 &&& (3 : Int32))), .val (.ref rr_449), .unset, .unset, .unset, .unset] [(.int p3)])) (fun t k => ?_) ?_
  · refine XS.astore X449.here hx rfl (hb hby at_9) rfl rfl (l' := #[.val (.int p1), .val (.int p2), .val (.int p3), .val (.int p4), .val (.int (p1 &&& (3 : Int32))), .val (.ref rr_449), .unset, .unset, .unset, .unset]) rfl ?_
    refine XS.iloadN X449.here hx rfl (hb hby at_11) rfl ?_
    exact k
  obtain ⟨_, _, ⟨T454, L454, k454, n454⟩, -, X454, hSq454, gr454, ⟨Lc454, hQ454, l454, y454, z454, CHq454⟩, st454⟩ := callSS X449 hx (y := (⟨"com/example/axiomwright/axiomwright/cli/TimingsNonePinLaw", "element", "(I)Ljava/lang/String;"⟩ : MethodName)) hown (mvT hZ (own_w hw 0 rfl)) (mvT hZ (own_w hw 1 rfl)) (mvT hZ (own_w hw 2 rfl)) (mvT hZ (own_w hw 3 rfl)) (by decide) (backOfSH (W := 0) (s := s) (vm0 := T449.vm) (elt l Z a0 hw [] p3 cs T449.heap n0 Z449 hEL Q450 hcs) hZ (own_w hw 3 rfl) (own_w hw 2 rfl) (by decide) (by decide) hEL CH449.1) (g := (mkF m 12 #[.val (.int p1), .val (.int p2), .val (.int p3), .val (.int p4), .val (.int (p1 &&& (3 : Int32))), .val (.ref rr_449), .unset, .unset, .unset, .unset] [(.int p3)])) rfl (by rw [hml]; rfl) (argsL := [(.int p3)]) (rest := []) (lenOf pd_14 rfl) rfl (by show 2 * 0 + _ ≤ _; exact Nat.le_of_eq rfl) (hb hby at_12) (fun _ _ => ⟨rfl, rfl, (by decide : 6 + 6 ≤ _), (by decide : 40 + 40 ≤ _)⟩)
  dsimp only [Pt.U, Pt.locs, Pt.cells, Pt.slots] at X454 l454 y454 z454 st454 hQ454 hSq454 gr454 CHq454
  subst l454 y454 z454
  have CH454 := CH449.trans CHq454
  have hS454 : s.Since T454.vm T454.heap.size := foldS (T := T449) hS449 hkq449 hSq454 gr454
  have hkq454 : T454.heap.size ≤ T454.heap.size := Nat.le_refl _
  have hZ : Z.Warmed39 (s.setVm T454.vm).vm := State.Warmed39.trans (t := s.setVm T449.vm) hZ hSq454.1
  have hown : (s.setVm T454.vm).vm.findClass "com/example/axiomwright/axiomwright/cli/TimingsNonePinLaw" = some m.cls := by rw [show (s.setVm T454.vm).vm = T454.vm from rfl, hSq454.1.alike.findClass]; exact hown
  have X454 : Stand p l e room_1 (s.setVm T454.vm) m #[(.int p1), (.int p2), (.int p3), (.int p4)] below meth c T454 _ _ _ := X454
  obtain ⟨rr_454, rfl, Nq454, Kq454, U454_0⟩ := hQ454
  have Q455 : Sta Z T454.heap "java/lang/String" "COMPACT_STRINGS" "Z" (.int cs) := Q450.ext (own_extK Kq454)
  have Q456 : Sta Z T454.heap "java/util/ArrayList" "DEFAULTCAPACITY_EMPTY_ELEMENTDATA" "[Ljava/lang/Object;" (.ref de) := Q451.ext (own_extK Kq454)
  have Q457 : Arv Z T454.heap de kd (.object "java/lang/Object") (0 : Int32) [] .null := Q452.ext (own_extK Kq454)
  have Q458 : Sta Z T454.heap "java/util/Optional" "EMPTY" "Ljava/util/Optional;" (.ref oe) := Q453.ext (own_extK Kq454)
  have Q459 : Exa Z T454.heap rr_449 "java/lang/String" := U449_0.ext (own_extK Kq454)
  have Z454 : n0 ≤ T454.heap.size := Nat.le_trans Z449 Kq454.1
  have N454 := Fr.app N449 Nq454
  refine own_go (B := T454.setTop (mkF m 15 #[.val (.int p1), .val (.int p2), .val (.int p3), .val (.int p4), .val (.int (p1 &&& (3 : Int32))), .val (.ref rr_449), .unset, .unset, .unset, .unset] [(.ref rr_454)])) (fun t k => st454.trans k) ?_
  refine own_go (B := T454.setTop (mkF m 18 #[.val (.int p1), .val (.int p2), .val (.int p3), .val (.int p4), .val (.int (p1 &&& (3 : Int32))), .val (.ref rr_449), .val (.ref rr_454), .unset, .unset, .unset] [(.int p4)])) (fun t k => ?_) ?_
  · refine XS.astore X454.here hx rfl (hb hby at_15) rfl rfl (l' := #[.val (.int p1), .val (.int p2), .val (.int p3), .val (.int p4), .val (.int (p1 &&& (3 : Int32))), .val (.ref rr_449), .val (.ref rr_454), .unset, .unset, .unset]) rfl ?_
    refine XS.iloadN X454.here hx rfl (hb hby at_17) rfl ?_
    exact k
  obtain ⟨_, _, ⟨T460, L460, k460, n460⟩, -, X460, hSq460, gr460, ⟨Lc460, hQ460, l460, y460, z460, CHq460⟩, st460⟩ := callSS X454 hx (y := (⟨"com/example/axiomwright/axiomwright/cli/TimingsNonePinLaw", "element", "(I)Ljava/lang/String;"⟩ : MethodName)) hown (mvT hZ (own_w hw 0 rfl)) (mvT hZ (own_w hw 1 rfl)) (mvT hZ (own_w hw 2 rfl)) (mvT hZ (own_w hw 3 rfl)) (by decide) (backOfSH (W := 0) (s := s) (vm0 := T454.vm) (elt l Z a0 hw [] p4 cs T454.heap n0 Z454 hEL Q455 hcs) hZ (own_w hw 3 rfl) (own_w hw 2 rfl) (by decide) (by decide) hEL CH454.1) (g := (mkF m 18 #[.val (.int p1), .val (.int p2), .val (.int p3), .val (.int p4), .val (.int (p1 &&& (3 : Int32))), .val (.ref rr_449), .val (.ref rr_454), .unset, .unset, .unset] [(.int p4)])) rfl (by rw [hml]; rfl) (argsL := [(.int p4)]) (rest := []) (lenOf pd_14 rfl) rfl (by show 2 * 0 + _ ≤ _; exact Nat.le_of_eq rfl) (hb hby at_18) (fun _ _ => ⟨rfl, rfl, (by decide : 12 + 6 ≤ _), (by decide : 80 + 40 ≤ _)⟩)
  dsimp only [Pt.U, Pt.locs, Pt.cells, Pt.slots] at X460 l460 y460 z460 st460 hQ460 hSq460 gr460 CHq460
  subst l460 y460 z460
  have CH460 := CH454.trans CHq460
  have hS460 : s.Since T460.vm T460.heap.size := foldS (T := T454) hS454 hkq454 hSq460 gr460
  have hkq460 : T460.heap.size ≤ T460.heap.size := Nat.le_refl _
  have hZ : Z.Warmed39 (s.setVm T460.vm).vm := State.Warmed39.trans (t := s.setVm T454.vm) hZ hSq460.1
  have hown : (s.setVm T460.vm).vm.findClass "com/example/axiomwright/axiomwright/cli/TimingsNonePinLaw" = some m.cls := by rw [show (s.setVm T460.vm).vm = T460.vm from rfl, hSq460.1.alike.findClass]; exact hown
  have X460 : Stand p l e room_1 (s.setVm T460.vm) m #[(.int p1), (.int p2), (.int p3), (.int p4)] below meth c T460 _ _ _ := X460
  obtain ⟨rr_460, rfl, Nq460, Kq460, U460_0⟩ := hQ460
  have Q461 : Sta Z T460.heap "java/lang/String" "COMPACT_STRINGS" "Z" (.int cs) := Q455.ext (own_extK Kq460)
  have Q462 : Sta Z T460.heap "java/util/ArrayList" "DEFAULTCAPACITY_EMPTY_ELEMENTDATA" "[Ljava/lang/Object;" (.ref de) := Q456.ext (own_extK Kq460)
  have Q463 : Arv Z T460.heap de kd (.object "java/lang/Object") (0 : Int32) [] .null := Q457.ext (own_extK Kq460)
  have Q464 : Sta Z T460.heap "java/util/Optional" "EMPTY" "Ljava/util/Optional;" (.ref oe) := Q458.ext (own_extK Kq460)
  have Q465 : Exa Z T460.heap rr_449 "java/lang/String" := Q459.ext (own_extK Kq460)
  have Q466 : Exa Z T460.heap rr_454 "java/lang/String" := U454_0.ext (own_extK Kq460)
  have Z460 : n0 ≤ T460.heap.size := Nat.le_trans Z454 Kq460.1
  have N460 := Fr.app N454 Nq460
  refine own_go (B := T460.setTop (mkF m 21 #[.val (.int p1), .val (.int p2), .val (.int p3), .val (.int p4), .val (.int (p1 &&& (3 : Int32))), .val (.ref rr_449), .val (.ref rr_454), .unset, .unset, .unset] [(.ref rr_460)])) (fun t k => st460.trans k) ?_
  refine own_go (B := T460.setTop (mkF m 23 #[.val (.int p1), .val (.int p2), .val (.int p3), .val (.int p4), .val (.int (p1 &&& (3 : Int32))), .val (.ref rr_449), .val (.ref rr_454), .val (.ref rr_460), .unset, .unset] [])) (fun t k => ?_) ?_
  · refine XS.astore X460.here hx rfl (hb hby at_21) rfl rfl (l' := #[.val (.int p1), .val (.int p2), .val (.int p3), .val (.int p4), .val (.int (p1 &&& (3 : Int32))), .val (.ref rr_449), .val (.ref rr_454), .val (.ref rr_460), .unset, .unset]) rfl ?_
    exact k
  rcases own_and3 p1 with hk467 | hk467 | hk467 | hk467
  · rw [hk467]
    obtain ⟨T468, h468, X468, e468, E468, A468, D468, -, st468⟩ := newO X460 hx hZ hown (own_w hw 37 rfl) (own_w hw 38 rfl) (own_w hw 39 rfl) rfl (g := (mkF m 23 #[.val (.int p1), .val (.int p2), .val (.int p3), .val (.int p4), .val (.int (0 : Int32)), .val (.ref rr_449), .val (.ref rr_454), .val (.ref rr_460), .unset, .unset] [])) rfl (hb hby at_23) (by decide) (by decide)
    obtain ⟨b468, g468⟩ : ∃ z, z = T460.heap.size := ⟨_, rfl⟩
    rw [← g468] at A468 D468 st468
    have ne468_de : de ≠ b468 := Nat.ne_of_lt (Nat.lt_of_lt_of_le Q463.lt (Nat.le_of_eq g468.symm))
    have ne468_rr_449 : rr_449 ≠ b468 := Nat.ne_of_lt (Nat.lt_of_lt_of_le Q465.lt (Nat.le_of_eq g468.symm))
    have ne468_rr_454 : rr_454 ≠ b468 := Nat.ne_of_lt (Nat.lt_of_lt_of_le Q466.lt (Nat.le_of_eq g468.symm))
    have ne468_rr_460 : rr_460 ≠ b468 := Nat.ne_of_lt (Nat.lt_of_lt_of_le U460_0.lt (Nat.le_of_eq g468.symm))
    have low468 : n0 ≤ b468 := Nat.le_trans Z460 (Nat.le_of_eq g468.symm)
    have hk468 := Nat.le_trans hkq460 E468.1
    have Q469 : Sta Z h468 "java/lang/String" "COMPACT_STRINGS" "Z" (.int cs) := Q461.ext E468
    have Q470 : Sta Z h468 "java/util/ArrayList" "DEFAULTCAPACITY_EMPTY_ELEMENTDATA" "[Ljava/lang/Object;" (.ref de) := Q462.ext E468
    have Q471 : Arv Z h468 de kd (.object "java/lang/Object") (0 : Int32) [] .null := Q463.ext E468
    have Q472 : Sta Z h468 "java/util/Optional" "EMPTY" "Ljava/util/Optional;" (.ref oe) := Q464.ext E468
    have Q473 : Exa Z h468 rr_449 "java/lang/String" := Q465.ext E468
    have Q474 : Exa Z h468 rr_454 "java/lang/String" := Q466.ext E468
    have Q475 : Exa Z h468 rr_460 "java/lang/String" := U460_0.ext E468
    have Z468 : n0 ≤ h468.size := Nat.le_trans Z460 E468.1
    have D468_modCount_AbstractList : Fld Z h468 b468 "java/util/AbstractList" "modCount" "I" (.int (0 : Int32)) := D468 (Or.inl (own_w hw 57 rfl)) (ty := .int) (by decide)
    have D468_elementData_ArrayList : Fld Z h468 b468 "java/util/ArrayList" "elementData" "[Ljava/lang/Object;" .null := D468 (Or.inl (own_w hw 60 rfl)) (ty := (.array (.object "java/lang/Object"))) (by decide)
    have D468_size_ArrayList : Fld Z h468 b468 "java/util/ArrayList" "size" "I" (.int (0 : Int32)) := D468 (Or.inl (own_w hw 95 rfl)) (ty := .int) (by decide)
    refine own_go st468 ?_
    refine own_go (B := T468.setTop (mkF m 27 #[.val (.int p1), .val (.int p2), .val (.int p3), .val (.int p4), .val (.int (0 : Int32)), .val (.ref rr_449), .val (.ref rr_454), .val (.ref rr_460), .unset, .unset] [(.ref b468), (.ref b468)])) (fun t k => ?_) ?_
    · refine XS.dup X468.here hx rfl (hb hby at_26) rfl rfl ?_
      exact k
    obtain ⟨_, _, ⟨T476, L476, k476, n476⟩, -, X476, ⟨Lc476, hQ476, l476, y476, z476⟩, st476⟩ := X468.specialBack hx (y := (⟨"java/util/ArrayList", "<init>", "()V"⟩ : MethodName)) rfl hown (mvT hZ (own_w hw 40 rfl)) (mvT hZ (own_w hw 41 rfl)) (mvT hZ (own_w hw 42 rfl)) (by decide) (backOf (W := 1) (alI l Z a0 hw [] b468 de h468 n0 Z468 A468 D468_modCount_AbstractList D468_elementData_ArrayList D468_size_ArrayList Q470 low468) hZ (own_w hw 42 rfl) (own_w hw 39 rfl) (by decide) (by decide)) (g := (mkF m 27 #[.val (.int p1), .val (.int p2), .val (.int p3), .val (.int p4), .val (.int (0 : Int32)), .val (.ref rr_449), .val (.ref rr_454), .val (.ref rr_460), .unset, .unset] [(.ref b468), (.ref b468)])) rfl (by rw [hml]; rfl) (Steps.refl _) (a := b468) (argsL := []) (rest := [(.ref b468)]) (lenOf pd_5 rfl) rfl (by show 2 * 0 + _ ≤ _; exact Nat.le_of_eq rfl) (hb hby at_27) (fun _ _ => ⟨rfl, e468, (by decide : 19 + 0 ≤ _), (by decide : 123 + 0 ≤ _)⟩)
    dsimp only [Pt.U, Pt.locs, Pt.cells, Pt.slots] at X476 l476 y476 z476 st476 hQ476
    subst l476 y476 z476
    obtain ⟨rfl, Nq476, Kq476, U476_0, U476_1, U476_2⟩ := hQ476
    have hk476 := Nat.le_trans hk468 Kq476.1
    have Q477 : Sta Z T476.heap "java/lang/String" "COMPACT_STRINGS" "Z" (.int cs) := own_staK Q469 Kq476 (nsS (own_nsE A468) ns0)
    have Q478 : Sta Z T476.heap "java/util/ArrayList" "DEFAULTCAPACITY_EMPTY_ELEMENTDATA" "[Ljava/lang/Object;" (.ref de) := own_staK Q470 Kq476 (nsS (own_nsE A468) ns0)
    have Q479 : Arv Z T476.heap de kd (.object "java/lang/Object") (0 : Int32) [] .null := Q471.keep Kq476 (ninS ne468_de nin0)
    have Q480 : Sta Z T476.heap "java/util/Optional" "EMPTY" "Ljava/util/Optional;" (.ref oe) := own_staK Q472 Kq476 (nsS (own_nsE A468) ns0)
    have Q481 : Exa Z T476.heap rr_449 "java/lang/String" := Q473.keep Kq476
    have Q482 : Exa Z T476.heap rr_454 "java/lang/String" := Q474.keep Kq476
    have Q483 : Exa Z T476.heap rr_460 "java/lang/String" := Q475.keep Kq476
    have Q484 : Exa Z T476.heap b468 "java/util/ArrayList" := A468.keep Kq476
    have Z476 : n0 ≤ T476.heap.size := Nat.le_trans Z468 Kq476.1
    have N476 := Fr.app N460 Nq476
    refine own_go (B := T476.setTop (mkF m 30 #[.val (.int p1), .val (.int p2), .val (.int p3), .val (.int p4), .val (.int (0 : Int32)), .val (.ref rr_449), .val (.ref rr_454), .val (.ref rr_460), .unset, .unset] [(.ref b468)])) (fun t k => st476.trans k) ?_
    refine own_go (B := T476.setTop (mkF m 82 #[.val (.int p1), .val (.int p2), .val (.int p3), .val (.int p4), .val (.int (0 : Int32)), .val (.ref rr_449), .val (.ref rr_454), .val (.ref rr_460), .val (.ref b468), .unset] [(.ref b468)])) (fun t k => ?_) ?_
    · refine XS.astore X476.here hx rfl (hb hby at_30) rfl rfl (l' := #[.val (.int p1), .val (.int p2), .val (.int p3), .val (.int p4), .val (.int (0 : Int32)), .val (.ref rr_449), .val (.ref rr_454), .val (.ref rr_460), .val (.ref b468), .unset]) rfl ?_
      refine XS.iload X476.here hx rfl (hb hby at_32) rfl ?_
      refine XS.iconst X476.here hx rfl (hb hby at_34) ?_
      refine XS.icmpYes X476.here hx rfl (pc0 := 35) (pc' := 48) rfl (hb hby at_35) rfl (tlt (by decide : ((0 : Int32) < (1 : Int32)))).1 (by decide) (by decide) ?_
      refine XS.iload X476.here hx rfl (hb hby at_48) rfl ?_
      refine XS.iconst X476.here hx rfl (hb hby at_50) ?_
      refine XS.icmpYes X476.here hx rfl (pc0 := 51) (pc' := 64) rfl (hb hby at_51) rfl (tlt (by decide : ((0 : Int32) < (2 : Int32)))).1 (by decide) (by decide) ?_
      refine XS.iload X476.here hx rfl (hb hby at_64) rfl ?_
      refine XS.iconst X476.here hx rfl (hb hby at_66) ?_
      refine XS.icmpYes X476.here hx rfl (pc0 := 67) (pc' := 80) rfl (hb hby at_67) rfl (tlt (by decide : ((0 : Int32) < (3 : Int32)))).1 (by decide) (by decide) ?_
      refine XS.aload X476.here hx rfl (hb hby at_80) rfl rfl ?_
      exact k
    obtain ⟨_, _, ⟨T488, L488, k488, n488⟩, -, X488, ⟨Lc488, hQ488, l488, y488, z488⟩, st488⟩ := Jvm.LawKit.callS X476 hx (y := (⟨"com/example/axiomwright/axiomwright/cli/Timings", "none", "(Ljava/util/List;)Lcom/example/axiomwright/axiomwright/cli/Timings;"⟩ : MethodName)) hown (mvT hZ (own_w hw 61 rfl)) (mvT hZ (own_w hw 62 rfl)) (mvT hZ (own_w hw 63 rfl)) (mvT hZ (own_w hw 64 rfl)) (by decide) (backOf (W := 0) (non l Z a0 hw [] b468 oe T476.heap n0 Z476 Q480) hZ (own_w hw 64 rfl) (own_w hw 63 rfl) (by decide) (by decide)) (g := (mkF m 82 #[.val (.int p1), .val (.int p2), .val (.int p3), .val (.int p4), .val (.int (0 : Int32)), .val (.ref rr_449), .val (.ref rr_454), .val (.ref rr_460), .val (.ref b468), .unset] [(.ref b468)])) rfl (by rw [hml]; rfl) (argsL := [(.ref b468)]) (rest := []) (lenOf pd_15 rfl) rfl (by show 2 * 0 + _ ≤ _; exact Nat.le_of_eq rfl) (hb hby at_82) (fun _ _ => ⟨rfl, rfl, (by decide : 19 + 1 ≤ _), (by decide : 123 + 2 ≤ _)⟩)
    dsimp only [Pt.U, Pt.locs, Pt.cells, Pt.slots] at X488 l488 y488 z488 st488 hQ488
    subst l488 y488 z488
    obtain ⟨tt_488, rfl, Nq488, Kq488, sq_tt_488, U488_0, U488_1⟩ := hQ488
    have ne_b468_tt_488 : b468 ≠ tt_488 := Nat.ne_of_lt (Nat.lt_of_lt_of_le Q484.lt sq_tt_488)
    have ne_de_tt_488 : de ≠ tt_488 := Nat.ne_of_lt (Nat.lt_of_lt_of_le Q479.lt sq_tt_488)
    have ne_rr_449_tt_488 : rr_449 ≠ tt_488 := Nat.ne_of_lt (Nat.lt_of_lt_of_le Q481.lt sq_tt_488)
    have ne_rr_454_tt_488 : rr_454 ≠ tt_488 := Nat.ne_of_lt (Nat.lt_of_lt_of_le Q482.lt sq_tt_488)
    have ne_rr_460_tt_488 : rr_460 ≠ tt_488 := Nat.ne_of_lt (Nat.lt_of_lt_of_le Q483.lt sq_tt_488)
    have low_tt_488 : n0 ≤ tt_488 := Nat.le_trans Z476 sq_tt_488
    have hk488 := Nat.le_trans hk476 Kq488.1
    have Q489 : Sta Z T488.heap "java/lang/String" "COMPACT_STRINGS" "Z" (.int cs) := Q477.ext (own_extK Kq488)
    have Q490 : Sta Z T488.heap "java/util/ArrayList" "DEFAULTCAPACITY_EMPTY_ELEMENTDATA" "[Ljava/lang/Object;" (.ref de) := Q478.ext (own_extK Kq488)
    have Q491 : Arv Z T488.heap de kd (.object "java/lang/Object") (0 : Int32) [] .null := Q479.ext (own_extK Kq488)
    have Q492 : Sta Z T488.heap "java/util/Optional" "EMPTY" "Ljava/util/Optional;" (.ref oe) := Q480.ext (own_extK Kq488)
    have Q493 : Exa Z T488.heap rr_449 "java/lang/String" := Q481.ext (own_extK Kq488)
    have Q494 : Exa Z T488.heap rr_454 "java/lang/String" := Q482.ext (own_extK Kq488)
    have Q495 : Exa Z T488.heap rr_460 "java/lang/String" := Q483.ext (own_extK Kq488)
    have Q496 : Exa Z T488.heap b468 "java/util/ArrayList" := Q484.ext (own_extK Kq488)
    have Q497 : Fld Z T488.heap b468 "java/util/AbstractList" "modCount" "I" (.int (0 : Int32)) := U476_0.ext (own_extK Kq488)
    have Q498 : Fld Z T488.heap b468 "java/util/ArrayList" "elementData" "[Ljava/lang/Object;" (.ref de) := U476_1.ext (own_extK Kq488)
    have Q499 : Fld Z T488.heap b468 "java/util/ArrayList" "size" "I" (.int (0 : Int32)) := U476_2.ext (own_extK Kq488)
    have Z488 : n0 ≤ T488.heap.size := Nat.le_trans Z476 Kq488.1
    have N488 := Fr.app N476 Nq488
    refine own_go (B := T488.setTop (mkF m 85 #[.val (.int p1), .val (.int p2), .val (.int p3), .val (.int p4), .val (.int (0 : Int32)), .val (.ref rr_449), .val (.ref rr_454), .val (.ref rr_460), .val (.ref b468), .unset] [(.ref tt_488)])) st488 ?_
    obtain ⟨cq500, kq500, q500a, q500b, q500c⟩ := isOf hZ rfl U488_0
    obtain ⟨_, _, ⟨T500, L500, k500, n500⟩, -, X500, ⟨Lc500, hQ500, l500, y500, z500⟩, st500⟩ := X488.virtualBack hx (y := (⟨"com/example/axiomwright/axiomwright/cli/Timings", "arguments", "()Ljava/util/List;"⟩ : MethodName)) (z := (⟨"com/example/axiomwright/axiomwright/cli/Timings", "arguments", "()Ljava/util/List;"⟩ : MethodName)) hown (mvT hZ (own_w hw 80 rfl)) (mvT hZ (own_w hw 81 rfl)) (notFace_of_selects (args := #[]) (mvT hZ (own_w hw 83 rfl))) (mvT hZ (own_w hw 83 rfl)) (mvT hZ (own_w hw 82 rfl)) (by decide) (backOf (W := 0) (arg l Z a0 hw [] tt_488 b468 T488.heap n0 Z488 U488_0 U488_1) hZ (own_w hw 84 rfl) (own_w hw 63 rfl) (by decide) (by decide)) q500a q500c (g := (mkF m 85 #[.val (.int p1), .val (.int p2), .val (.int p3), .val (.int p4), .val (.int (0 : Int32)), .val (.ref rr_449), .val (.ref rr_454), .val (.ref rr_460), .val (.ref b468), .unset] [(.ref tt_488)])) rfl (by rw [hml]; rfl) (Steps.refl _) (argsL := []) (rest := []) (lenOf pd_16 rfl) rfl (by show 2 * 0 + _ ≤ _; exact Nat.le_of_eq rfl) (hb hby at_85) (fun _ _ => ⟨rfl, rfl, (by decide : 20 + 0 ≤ _), (by decide : 125 + 0 ≤ _)⟩)
    dsimp only [Pt.U, Pt.locs, Pt.cells, Pt.slots] at X500 l500 y500 z500 st500 hQ500
    subst l500 y500 z500
    obtain ⟨rfl, Nq500, e500⟩ := hQ500
    have N500 := Fr.app N488 Nq500
    refine own_go (B := T500.setTop (mkF m 88 #[.val (.int p1), .val (.int p2), .val (.int p3), .val (.int p4), .val (.int (0 : Int32)), .val (.ref rr_449), .val (.ref rr_454), .val (.ref rr_460), .val (.ref b468), .unset] [(.ref b468)])) (fun t k => st500.trans k) ?_
    refine own_go (B := T500.setTop (mkF m 99 #[.val (.int p1), .val (.int p2), .val (.int p3), .val (.int p4), .val (.int (0 : Int32)), .val (.ref rr_449), .val (.ref rr_454), .val (.ref rr_460), .val (.ref b468), .val (.ref b468)] [(.ref b468)])) (fun t k => ?_) ?_
    · refine XS.astore X500.here hx rfl (hb hby at_88) rfl rfl (l' := #[.val (.int p1), .val (.int p2), .val (.int p3), .val (.int p4), .val (.int (0 : Int32)), .val (.ref rr_449), .val (.ref rr_454), .val (.ref rr_460), .val (.ref b468), .val (.ref b468)]) rfl ?_
      refine XS.aload X500.here hx rfl (hb hby at_90) rfl rfl ?_
      refine XS.ifnonnullYes X500.here hx rfl (pc0 := 92) (pc' := 97) rfl (hb hby at_92) rfl (by decide) (by decide) ?_
      refine XS.aload X500.here hx rfl (hb hby at_97) rfl rfl ?_
      exact k
    obtain ⟨cq501, kq501, q501a, q501b, q501c⟩ := isOf hZ e500 Q496
    obtain ⟨_, _, ⟨T501, L501, k501, n501⟩, -, X501, ⟨Lc501, hQ501, l501, y501, z501⟩, st501⟩ := X500.interfaceBack hx (xi := (⟨"java/util/List", "size", "()I"⟩ : MethodName)) (y := (⟨"java/util/ArrayList", "size", "()I"⟩ : MethodName)) hown (mvT hZ (own_w hw 85 rfl)) (mvT hZ (own_w hw 86 rfl)) (mvT hZ (own_w hw 87 rfl)) (mvT hZ (own_w hw 88 rfl)) (mvT hZ (own_w hw 89 rfl)) (mvT hZ (own_w hw 90 rfl)) (mvT hZ (own_w hw 91 rfl)) (mvT hZ (own_w hw 92 rfl)) (by decide) (backOf (W := 0) (sz_0 l Z a0 hw [] b468 T488.heap n0 Z488 Q499) hZ (own_w hw 93 rfl) (own_w hw 39 rfl) (by decide) (by decide)) q501a q501b q501c (g := (mkF m 99 #[.val (.int p1), .val (.int p2), .val (.int p3), .val (.int p4), .val (.int (0 : Int32)), .val (.ref rr_449), .val (.ref rr_454), .val (.ref rr_460), .val (.ref b468), .val (.ref b468)] [(.ref b468)])) rfl (by rw [hml]; rfl) (Steps.refl _) (argsL := []) (rest := []) (lenOf pd_17 rfl) rfl (by show 2 * 0 + _ ≤ _; exact Nat.le_of_eq rfl) (hb hby at_99) (fun _ _ => ⟨rfl, e500, (by decide : 20 + 0 ≤ _), (by decide : 125 + 0 ≤ _)⟩)
    dsimp only [Pt.U, Pt.locs, Pt.cells, Pt.slots] at X501 l501 y501 z501 st501 hQ501
    subst l501 y501 z501
    obtain ⟨rfl, Nq501, e501⟩ := hQ501
    have N501 := Fr.app N500 Nq501
    refine own_go (B := T501.setTop (mkF m 104 #[.val (.int p1), .val (.int p2), .val (.int p3), .val (.int p4), .val (.int (0 : Int32)), .val (.ref rr_449), .val (.ref rr_454), .val (.ref rr_460), .val (.ref b468), .val (.ref b468)] [(.int (0 : Int32))])) (fun t k => st501.trans k) ?_
    refine own_go (B := T501.setTop (mkF m 113 #[.val (.int p1), .val (.int p2), .val (.int p3), .val (.int p4), .val (.int (0 : Int32)), .val (.ref rr_449), .val (.ref rr_454), .val (.ref rr_460), .val (.ref b468), .val (.ref b468)] [(.ref b468)])) (fun t k => ?_) ?_
    · refine XS.iload X501.here hx rfl (hb hby at_104) rfl ?_
      refine XS.icmpYes X501.here hx rfl (pc0 := 106) (pc' := 111) rfl (hb hby at_106) rfl (teq (rfl : (0 : Int32) = (0 : Int32))).1 (by decide) (by decide) ?_
      refine XS.aload X501.here hx rfl (hb hby at_111) rfl rfl ?_
      exact k
    obtain ⟨cq503, kq503, q503a, q503b, q503c⟩ := isOf hZ e501 Q496
    obtain ⟨_, _, ⟨T503, L503, k503, n503⟩, -, X503, ⟨Lc503, hQ503, l503, y503, z503⟩, st503⟩ := X501.interfaceBack hx (xi := (⟨"java/util/List", "size", "()I"⟩ : MethodName)) (y := (⟨"java/util/ArrayList", "size", "()I"⟩ : MethodName)) hown (mvT hZ (own_w hw 85 rfl)) (mvT hZ (own_w hw 86 rfl)) (mvT hZ (own_w hw 87 rfl)) (mvT hZ (own_w hw 88 rfl)) (mvT hZ (own_w hw 89 rfl)) (mvT hZ (own_w hw 90 rfl)) (mvT hZ (own_w hw 91 rfl)) (mvT hZ (own_w hw 92 rfl)) (by decide) (backOf (W := 0) (sz_0 l Z a0 hw [] b468 T488.heap n0 Z488 Q499) hZ (own_w hw 93 rfl) (own_w hw 39 rfl) (by decide) (by decide)) q503a q503b q503c (g := (mkF m 113 #[.val (.int p1), .val (.int p2), .val (.int p3), .val (.int p4), .val (.int (0 : Int32)), .val (.ref rr_449), .val (.ref rr_454), .val (.ref rr_460), .val (.ref b468), .val (.ref b468)] [(.ref b468)])) rfl (by rw [hml]; rfl) (Steps.refl _) (argsL := []) (rest := []) (lenOf pd_17 rfl) rfl (by show 2 * 0 + _ ≤ _; exact Nat.le_of_eq rfl) (hb hby at_113) (fun _ _ => ⟨rfl, e501, (by decide : 20 + 0 ≤ _), (by decide : 125 + 0 ≤ _)⟩)
    dsimp only [Pt.U, Pt.locs, Pt.cells, Pt.slots] at X503 l503 y503 z503 st503 hQ503
    subst l503 y503 z503
    obtain ⟨rfl, Nq503, e503⟩ := hQ503
    have N503 := Fr.app N501 Nq503
    refine own_go (B := T503.setTop (mkF m 118 #[.val (.int p1), .val (.int p2), .val (.int p3), .val (.int p4), .val (.int (0 : Int32)), .val (.ref rr_449), .val (.ref rr_454), .val (.ref rr_460), .val (.ref b468), .val (.ref b468)] [(.int (0 : Int32))])) (fun t k => st503.trans k) ?_
    refine own_go (B := T503.setTop (mkF m 198 #[.val (.int p1), .val (.int p2), .val (.int p3), .val (.int p4), .val (.int (0 : Int32)), .val (.ref rr_449), .val (.ref rr_454), .val (.ref rr_460), .val (.ref b468), .val (.ref b468)] [(.int (1 : Int32))])) (fun t k => ?_) ?_
    · refine XS.iload X503.here hx rfl (hb hby at_118) rfl ?_
      refine XS.icmpYes X503.here hx rfl (pc0 := 120) (pc' := 125) rfl (hb hby at_120) rfl (teq (rfl : (0 : Int32) = (0 : Int32))).1 (by decide) (by decide) ?_
      refine XS.iload X503.here hx rfl (hb hby at_125) rfl ?_
      refine XS.iconst X503.here hx rfl (hb hby at_127) ?_
      refine XS.icmpYes X503.here hx rfl (pc0 := 128) (pc' := 149) rfl (hb hby at_128) rfl (tlt (by decide : ((0 : Int32) < (1 : Int32)))).1 (by decide) (by decide) ?_
      refine XS.iload X503.here hx rfl (hb hby at_149) rfl ?_
      refine XS.iconst X503.here hx rfl (hb hby at_151) ?_
      refine XS.icmpYes X503.here hx rfl (pc0 := 152) (pc' := 173) rfl (hb hby at_152) rfl (tlt (by decide : ((0 : Int32) < (2 : Int32)))).1 (by decide) (by decide) ?_
      refine XS.iload X503.here hx rfl (hb hby at_173) rfl ?_
      refine XS.iconst X503.here hx rfl (hb hby at_175) ?_
      refine XS.icmpYes X503.here hx rfl (pc0 := 176) (pc' := 197) rfl (hb hby at_176) rfl (tlt (by decide : ((0 : Int32) < (3 : Int32)))).1 (by decide) (by decide) ?_
      refine XS.iconst X503.here hx rfl (hb hby at_197) ?_
      exact k
    obtain ⟨fs, hr, hrun, hended, hq⟩ := X503.leaveW hS460 (by rw [e503]; exact hk488) (v := some (.int (1 : Int32))) (fun h => by rw [Bd.returns] at h; cases h)
    refine ⟨_, _, ?_, hrun, hended, _, _, rfl, ?_, hq.1, hq.2.1, hq.2.2.1, hq.2.2.2.mono (by decide) (by decide)⟩
    · show Steps p.tables e below (T503.setTop (mkF m 198 #[.val (.int p1), .val (.int p2), .val (.int p3), .val (.int p4), .val (.int (0 : Int32)), .val (.ref rr_449), .val (.ref rr_454), .val (.ref rr_460), .val (.ref b468), .val (.ref b468)] [(.int (1 : Int32))])) _
      exact retN X503 hx (t := .boolean) Bd.returns (by simp) (hb hby at_198) hr
    · show Qrm0 Z p1 p2 p3 p4 cs de kd oe h0 n0 _ T503.heap _
      rw [e503]
      exact ⟨rfl, N503⟩
  · rw [hk467]
    obtain ⟨T508, h508, X508, e508, E508, A508, D508, -, st508⟩ := newO X460 hx hZ hown (own_w hw 37 rfl) (own_w hw 38 rfl) (own_w hw 39 rfl) rfl (g := (mkF m 23 #[.val (.int p1), .val (.int p2), .val (.int p3), .val (.int p4), .val (.int (1 : Int32)), .val (.ref rr_449), .val (.ref rr_454), .val (.ref rr_460), .unset, .unset] [])) rfl (hb hby at_23) (by decide) (by decide)
    obtain ⟨b508, g508⟩ : ∃ z, z = T460.heap.size := ⟨_, rfl⟩
    rw [← g508] at A508 D508 st508
    have ne508_de : de ≠ b508 := Nat.ne_of_lt (Nat.lt_of_lt_of_le Q463.lt (Nat.le_of_eq g508.symm))
    have ne508_rr_449 : rr_449 ≠ b508 := Nat.ne_of_lt (Nat.lt_of_lt_of_le Q465.lt (Nat.le_of_eq g508.symm))
    have ne508_rr_454 : rr_454 ≠ b508 := Nat.ne_of_lt (Nat.lt_of_lt_of_le Q466.lt (Nat.le_of_eq g508.symm))
    have ne508_rr_460 : rr_460 ≠ b508 := Nat.ne_of_lt (Nat.lt_of_lt_of_le U460_0.lt (Nat.le_of_eq g508.symm))
    have low508 : n0 ≤ b508 := Nat.le_trans Z460 (Nat.le_of_eq g508.symm)
    have hk508 := Nat.le_trans hkq460 E508.1
    have Q509 : Sta Z h508 "java/lang/String" "COMPACT_STRINGS" "Z" (.int cs) := Q461.ext E508
    have Q510 : Sta Z h508 "java/util/ArrayList" "DEFAULTCAPACITY_EMPTY_ELEMENTDATA" "[Ljava/lang/Object;" (.ref de) := Q462.ext E508
    have Q511 : Arv Z h508 de kd (.object "java/lang/Object") (0 : Int32) [] .null := Q463.ext E508
    have Q512 : Sta Z h508 "java/util/Optional" "EMPTY" "Ljava/util/Optional;" (.ref oe) := Q464.ext E508
    have Q513 : Exa Z h508 rr_449 "java/lang/String" := Q465.ext E508
    have Q514 : Exa Z h508 rr_454 "java/lang/String" := Q466.ext E508
    have Q515 : Exa Z h508 rr_460 "java/lang/String" := U460_0.ext E508
    have Z508 : n0 ≤ h508.size := Nat.le_trans Z460 E508.1
    have D508_modCount_AbstractList : Fld Z h508 b508 "java/util/AbstractList" "modCount" "I" (.int (0 : Int32)) := D508 (Or.inl (own_w hw 57 rfl)) (ty := .int) (by decide)
    have D508_elementData_ArrayList : Fld Z h508 b508 "java/util/ArrayList" "elementData" "[Ljava/lang/Object;" .null := D508 (Or.inl (own_w hw 60 rfl)) (ty := (.array (.object "java/lang/Object"))) (by decide)
    have D508_size_ArrayList : Fld Z h508 b508 "java/util/ArrayList" "size" "I" (.int (0 : Int32)) := D508 (Or.inl (own_w hw 95 rfl)) (ty := .int) (by decide)
    refine own_go st508 ?_
    refine own_go (B := T508.setTop (mkF m 27 #[.val (.int p1), .val (.int p2), .val (.int p3), .val (.int p4), .val (.int (1 : Int32)), .val (.ref rr_449), .val (.ref rr_454), .val (.ref rr_460), .unset, .unset] [(.ref b508), (.ref b508)])) (fun t k => ?_) ?_
    · refine XS.dup X508.here hx rfl (hb hby at_26) rfl rfl ?_
      exact k
    obtain ⟨_, _, ⟨T516, L516, k516, n516⟩, -, X516, ⟨Lc516, hQ516, l516, y516, z516⟩, st516⟩ := X508.specialBack hx (y := (⟨"java/util/ArrayList", "<init>", "()V"⟩ : MethodName)) rfl hown (mvT hZ (own_w hw 40 rfl)) (mvT hZ (own_w hw 41 rfl)) (mvT hZ (own_w hw 42 rfl)) (by decide) (backOf (W := 1) (alI l Z a0 hw [] b508 de h508 n0 Z508 A508 D508_modCount_AbstractList D508_elementData_ArrayList D508_size_ArrayList Q510 low508) hZ (own_w hw 42 rfl) (own_w hw 39 rfl) (by decide) (by decide)) (g := (mkF m 27 #[.val (.int p1), .val (.int p2), .val (.int p3), .val (.int p4), .val (.int (1 : Int32)), .val (.ref rr_449), .val (.ref rr_454), .val (.ref rr_460), .unset, .unset] [(.ref b508), (.ref b508)])) rfl (by rw [hml]; rfl) (Steps.refl _) (a := b508) (argsL := []) (rest := [(.ref b508)]) (lenOf pd_5 rfl) rfl (by show 2 * 0 + _ ≤ _; exact Nat.le_of_eq rfl) (hb hby at_27) (fun _ _ => ⟨rfl, e508, (by decide : 19 + 0 ≤ _), (by decide : 123 + 0 ≤ _)⟩)
    dsimp only [Pt.U, Pt.locs, Pt.cells, Pt.slots] at X516 l516 y516 z516 st516 hQ516
    subst l516 y516 z516
    obtain ⟨rfl, Nq516, Kq516, U516_0, U516_1, U516_2⟩ := hQ516
    have hk516 := Nat.le_trans hk508 Kq516.1
    have Q517 : Sta Z T516.heap "java/lang/String" "COMPACT_STRINGS" "Z" (.int cs) := own_staK Q509 Kq516 (nsS (own_nsE A508) ns0)
    have Q518 : Sta Z T516.heap "java/util/ArrayList" "DEFAULTCAPACITY_EMPTY_ELEMENTDATA" "[Ljava/lang/Object;" (.ref de) := own_staK Q510 Kq516 (nsS (own_nsE A508) ns0)
    have Q519 : Arv Z T516.heap de kd (.object "java/lang/Object") (0 : Int32) [] .null := Q511.keep Kq516 (ninS ne508_de nin0)
    have Q520 : Sta Z T516.heap "java/util/Optional" "EMPTY" "Ljava/util/Optional;" (.ref oe) := own_staK Q512 Kq516 (nsS (own_nsE A508) ns0)
    have Q521 : Exa Z T516.heap rr_449 "java/lang/String" := Q513.keep Kq516
    have Q522 : Exa Z T516.heap rr_454 "java/lang/String" := Q514.keep Kq516
    have Q523 : Exa Z T516.heap rr_460 "java/lang/String" := Q515.keep Kq516
    have Q524 : Exa Z T516.heap b508 "java/util/ArrayList" := A508.keep Kq516
    have Z516 : n0 ≤ T516.heap.size := Nat.le_trans Z508 Kq516.1
    have N516 := Fr.app N460 Nq516
    refine own_go (B := T516.setTop (mkF m 30 #[.val (.int p1), .val (.int p2), .val (.int p3), .val (.int p4), .val (.int (1 : Int32)), .val (.ref rr_449), .val (.ref rr_454), .val (.ref rr_460), .unset, .unset] [(.ref b508)])) (fun t k => st516.trans k) ?_
    refine own_go (B := T516.setTop (mkF m 42 #[.val (.int p1), .val (.int p2), .val (.int p3), .val (.int p4), .val (.int (1 : Int32)), .val (.ref rr_449), .val (.ref rr_454), .val (.ref rr_460), .val (.ref b508), .unset] [(.ref rr_449), (.ref b508)])) (fun t k => ?_) ?_
    · refine XS.astore X516.here hx rfl (hb hby at_30) rfl rfl (l' := #[.val (.int p1), .val (.int p2), .val (.int p3), .val (.int p4), .val (.int (1 : Int32)), .val (.ref rr_449), .val (.ref rr_454), .val (.ref rr_460), .val (.ref b508), .unset]) rfl ?_
      refine XS.iload X516.here hx rfl (hb hby at_32) rfl ?_
      refine XS.iconst X516.here hx rfl (hb hby at_34) ?_
      refine XS.icmpNo X516.here hx rfl (hb hby at_35) rfl (flt Int32.lt_irrefl).1 ?_
      refine XS.aload X516.here hx rfl (hb hby at_38) rfl rfl ?_
      refine XS.aload X516.here hx rfl (hb hby at_40) rfl rfl ?_
      exact k
    obtain ⟨cq526, kq526, q526a, q526b, q526c⟩ := isOf hZ rfl Q524
    obtain ⟨_, _, ⟨T526, L526, k526, n526⟩, -, X526, ⟨Lc526, hQ526, l526, y526, z526⟩, st526⟩ := X516.interfaceBack hx (xi := (⟨"java/util/List", "add", "(Ljava/lang/Object;)Z"⟩ : MethodName)) (y := (⟨"java/util/ArrayList", "add", "(Ljava/lang/Object;)Z"⟩ : MethodName)) hown (mvT hZ (own_w hw 97 rfl)) (mvT hZ (own_w hw 98 rfl)) (mvT hZ (own_w hw 99 rfl)) (mvT hZ (own_w hw 100 rfl)) (mvT hZ (own_w hw 101 rfl)) (mvT hZ (own_w hw 102 rfl)) (mvT hZ (own_w hw 103 rfl)) (mvT hZ (own_w hw 92 rfl)) (by decide) (backOf (W := 0) (ad1_0 l Z a0 hw [] b508 rr_449 de kd (0 : Int32) T516.heap n0 Z516 Q524 Q521 U516_2 U516_1 U516_0 Q518 Q519 low508 ne508_de) hZ (own_w hw 104 rfl) (own_w hw 39 rfl) (by decide) (by decide)) q526a q526b q526c (g := (mkF m 42 #[.val (.int p1), .val (.int p2), .val (.int p3), .val (.int p4), .val (.int (1 : Int32)), .val (.ref rr_449), .val (.ref rr_454), .val (.ref rr_460), .val (.ref b508), .unset] [(.ref rr_449), (.ref b508)])) rfl (by rw [hml]; rfl) (Steps.refl _) (argsL := [(.ref rr_449)]) (rest := []) (lenOf pd_18 rfl) rfl (by show 2 * 0 + _ ≤ _; exact Nat.le_of_eq rfl) (hb hby at_42) (fun _ _ => ⟨rfl, rfl, (by decide : 19 + 1 ≤ _), (by decide : 123 + 10 ≤ _)⟩)
    dsimp only [Pt.U, Pt.locs, Pt.cells, Pt.slots] at X526 l526 y526 z526 st526 hQ526
    subst l526 y526 z526
    obtain ⟨br_526, kb_526, rfl, Nq526, Kq526, sq_br_526, pq526_0, U526_0, U526_1, U526_2, U526_3, Pq526_0⟩ := hQ526
    have ne_b508_br_526 : b508 ≠ br_526 := Nat.ne_of_lt (Nat.lt_of_lt_of_le Q524.lt sq_br_526)
    have ne_de_br_526 : de ≠ br_526 := Nat.ne_of_lt (Nat.lt_of_lt_of_le Q519.lt sq_br_526)
    have ne_rr_449_br_526 : rr_449 ≠ br_526 := Nat.ne_of_lt (Nat.lt_of_lt_of_le Q521.lt sq_br_526)
    have ne_rr_454_br_526 : rr_454 ≠ br_526 := Nat.ne_of_lt (Nat.lt_of_lt_of_le Q522.lt sq_br_526)
    have ne_rr_460_br_526 : rr_460 ≠ br_526 := Nat.ne_of_lt (Nat.lt_of_lt_of_le Q523.lt sq_br_526)
    have low_br_526 : n0 ≤ br_526 := Nat.le_trans Z516 sq_br_526
    have hk526 := Nat.le_trans hk516 Kq526.1
    have Q527 : Sta Z T526.heap "java/lang/String" "COMPACT_STRINGS" "Z" (.int cs) := own_staK Q517 Kq526 (nsS (own_nsE Q524) ns0)
    have Q528 : Sta Z T526.heap "java/util/ArrayList" "DEFAULTCAPACITY_EMPTY_ELEMENTDATA" "[Ljava/lang/Object;" (.ref de) := own_staK Q518 Kq526 (nsS (own_nsE Q524) ns0)
    have Q529 : Arv Z T526.heap de kd (.object "java/lang/Object") (0 : Int32) [] .null := Q519.keep Kq526 (ninS ne508_de nin0)
    have Q530 : Sta Z T526.heap "java/util/Optional" "EMPTY" "Ljava/util/Optional;" (.ref oe) := own_staK Q520 Kq526 (nsS (own_nsE Q524) ns0)
    have Q531 : Exa Z T526.heap rr_449 "java/lang/String" := Q521.keep Kq526
    have Q532 : Exa Z T526.heap rr_454 "java/lang/String" := Q522.keep Kq526
    have Q533 : Exa Z T526.heap rr_460 "java/lang/String" := Q523.keep Kq526
    have Q534 : Exa Z T526.heap b508 "java/util/ArrayList" := Q524.keep Kq526
    have Z526 : n0 ≤ T526.heap.size := Nat.le_trans Z516 Kq526.1
    have N526 := Fr.app N516 Nq526
    refine own_go (B := T526.setTop (mkF m 47 #[.val (.int p1), .val (.int p2), .val (.int p3), .val (.int p4), .val (.int (1 : Int32)), .val (.ref rr_449), .val (.ref rr_454), .val (.ref rr_460), .val (.ref b508), .unset] [(.int (1 : Int32))])) (fun t k => st526.trans k) ?_
    refine own_go (B := T526.setTop (mkF m 82 #[.val (.int p1), .val (.int p2), .val (.int p3), .val (.int p4), .val (.int (1 : Int32)), .val (.ref rr_449), .val (.ref rr_454), .val (.ref rr_460), .val (.ref b508), .unset] [(.ref b508)])) (fun t k => ?_) ?_
    · refine XS.pop X526.here hx rfl (hb hby at_47) rfl rfl ?_
      refine XS.iload X526.here hx rfl (hb hby at_48) rfl ?_
      refine XS.iconst X526.here hx rfl (hb hby at_50) ?_
      refine XS.icmpYes X526.here hx rfl (pc0 := 51) (pc' := 64) rfl (hb hby at_51) rfl (tlt (by decide : ((1 : Int32) < (2 : Int32)))).1 (by decide) (by decide) ?_
      refine XS.iload X526.here hx rfl (hb hby at_64) rfl ?_
      refine XS.iconst X526.here hx rfl (hb hby at_66) ?_
      refine XS.icmpYes X526.here hx rfl (pc0 := 67) (pc' := 80) rfl (hb hby at_67) rfl (tlt (by decide : ((1 : Int32) < (3 : Int32)))).1 (by decide) (by decide) ?_
      refine XS.aload X526.here hx rfl (hb hby at_80) rfl rfl ?_
      exact k
    obtain ⟨_, _, ⟨T537, L537, k537, n537⟩, -, X537, ⟨Lc537, hQ537, l537, y537, z537⟩, st537⟩ := Jvm.LawKit.callS X526 hx (y := (⟨"com/example/axiomwright/axiomwright/cli/Timings", "none", "(Ljava/util/List;)Lcom/example/axiomwright/axiomwright/cli/Timings;"⟩ : MethodName)) hown (mvT hZ (own_w hw 61 rfl)) (mvT hZ (own_w hw 62 rfl)) (mvT hZ (own_w hw 63 rfl)) (mvT hZ (own_w hw 64 rfl)) (by decide) (backOf (W := 0) (non l Z a0 hw [] b508 oe T526.heap n0 Z526 Q530) hZ (own_w hw 64 rfl) (own_w hw 63 rfl) (by decide) (by decide)) (g := (mkF m 82 #[.val (.int p1), .val (.int p2), .val (.int p3), .val (.int p4), .val (.int (1 : Int32)), .val (.ref rr_449), .val (.ref rr_454), .val (.ref rr_460), .val (.ref b508), .unset] [(.ref b508)])) rfl (by rw [hml]; rfl) (argsL := [(.ref b508)]) (rest := []) (lenOf pd_15 rfl) rfl (by show 2 * 0 + _ ≤ _; exact Nat.le_of_eq rfl) (hb hby at_82) (fun _ _ => ⟨rfl, rfl, (by decide : 20 + 1 ≤ _), (by decide : 133 + 2 ≤ _)⟩)
    dsimp only [Pt.U, Pt.locs, Pt.cells, Pt.slots] at X537 l537 y537 z537 st537 hQ537
    subst l537 y537 z537
    obtain ⟨tt_537, rfl, Nq537, Kq537, sq_tt_537, U537_0, U537_1⟩ := hQ537
    have ne_b508_tt_537 : b508 ≠ tt_537 := Nat.ne_of_lt (Nat.lt_of_lt_of_le Q534.lt sq_tt_537)
    have ne_br_526_tt_537 : br_526 ≠ tt_537 := Nat.ne_of_lt (Nat.lt_of_lt_of_le U526_3.lt sq_tt_537)
    have ne_de_tt_537 : de ≠ tt_537 := Nat.ne_of_lt (Nat.lt_of_lt_of_le Q529.lt sq_tt_537)
    have ne_rr_449_tt_537 : rr_449 ≠ tt_537 := Nat.ne_of_lt (Nat.lt_of_lt_of_le Q531.lt sq_tt_537)
    have ne_rr_454_tt_537 : rr_454 ≠ tt_537 := Nat.ne_of_lt (Nat.lt_of_lt_of_le Q532.lt sq_tt_537)
    have ne_rr_460_tt_537 : rr_460 ≠ tt_537 := Nat.ne_of_lt (Nat.lt_of_lt_of_le Q533.lt sq_tt_537)
    have low_tt_537 : n0 ≤ tt_537 := Nat.le_trans Z526 sq_tt_537
    have hk537 := Nat.le_trans hk526 Kq537.1
    have Q538 : Sta Z T537.heap "java/lang/String" "COMPACT_STRINGS" "Z" (.int cs) := Q527.ext (own_extK Kq537)
    have Q539 : Sta Z T537.heap "java/util/ArrayList" "DEFAULTCAPACITY_EMPTY_ELEMENTDATA" "[Ljava/lang/Object;" (.ref de) := Q528.ext (own_extK Kq537)
    have Q540 : Arv Z T537.heap de kd (.object "java/lang/Object") (0 : Int32) [] .null := Q529.ext (own_extK Kq537)
    have Q541 : Sta Z T537.heap "java/util/Optional" "EMPTY" "Ljava/util/Optional;" (.ref oe) := Q530.ext (own_extK Kq537)
    have Q542 : Exa Z T537.heap rr_449 "java/lang/String" := Q531.ext (own_extK Kq537)
    have Q543 : Exa Z T537.heap rr_454 "java/lang/String" := Q532.ext (own_extK Kq537)
    have Q544 : Exa Z T537.heap rr_460 "java/lang/String" := Q533.ext (own_extK Kq537)
    have Q545 : Exa Z T537.heap b508 "java/util/ArrayList" := Q534.ext (own_extK Kq537)
    have Q546 : Fld Z T537.heap b508 "java/util/ArrayList" "size" "I" (.int (1 : Int32)) := U526_0.ext (own_extK Kq537)
    have Q547 : Fld Z T537.heap b508 "java/util/ArrayList" "elementData" "[Ljava/lang/Object;" (.ref br_526) := U526_1.ext (own_extK Kq537)
    have Q548 : Fld Z T537.heap b508 "java/util/AbstractList" "modCount" "I" (.int ((0 : Int32) + (1 : Int32))) := U526_2.ext (own_extK Kq537)
    have Q549 : Arv Z T537.heap br_526 kb_526 (.object "java/lang/Object") (10 : Int32) [(.ref rr_449), .null, .null, .null, .null, .null, .null, .null, .null, .null] .null := U526_3.ext (own_extK Kq537)
    have Z537 : n0 ≤ T537.heap.size := Nat.le_trans Z526 Kq537.1
    have N537 := Fr.app N526 Nq537
    refine own_go (B := T537.setTop (mkF m 85 #[.val (.int p1), .val (.int p2), .val (.int p3), .val (.int p4), .val (.int (1 : Int32)), .val (.ref rr_449), .val (.ref rr_454), .val (.ref rr_460), .val (.ref b508), .unset] [(.ref tt_537)])) st537 ?_
    obtain ⟨cq550, kq550, q550a, q550b, q550c⟩ := isOf hZ rfl U537_0
    obtain ⟨_, _, ⟨T550, L550, k550, n550⟩, -, X550, ⟨Lc550, hQ550, l550, y550, z550⟩, st550⟩ := X537.virtualBack hx (y := (⟨"com/example/axiomwright/axiomwright/cli/Timings", "arguments", "()Ljava/util/List;"⟩ : MethodName)) (z := (⟨"com/example/axiomwright/axiomwright/cli/Timings", "arguments", "()Ljava/util/List;"⟩ : MethodName)) hown (mvT hZ (own_w hw 80 rfl)) (mvT hZ (own_w hw 81 rfl)) (notFace_of_selects (args := #[]) (mvT hZ (own_w hw 83 rfl))) (mvT hZ (own_w hw 83 rfl)) (mvT hZ (own_w hw 82 rfl)) (by decide) (backOf (W := 0) (arg l Z a0 hw [] tt_537 b508 T537.heap n0 Z537 U537_0 U537_1) hZ (own_w hw 84 rfl) (own_w hw 63 rfl) (by decide) (by decide)) q550a q550c (g := (mkF m 85 #[.val (.int p1), .val (.int p2), .val (.int p3), .val (.int p4), .val (.int (1 : Int32)), .val (.ref rr_449), .val (.ref rr_454), .val (.ref rr_460), .val (.ref b508), .unset] [(.ref tt_537)])) rfl (by rw [hml]; rfl) (Steps.refl _) (argsL := []) (rest := []) (lenOf pd_16 rfl) rfl (by show 2 * 0 + _ ≤ _; exact Nat.le_of_eq rfl) (hb hby at_85) (fun _ _ => ⟨rfl, rfl, (by decide : 21 + 0 ≤ _), (by decide : 135 + 0 ≤ _)⟩)
    dsimp only [Pt.U, Pt.locs, Pt.cells, Pt.slots] at X550 l550 y550 z550 st550 hQ550
    subst l550 y550 z550
    obtain ⟨rfl, Nq550, e550⟩ := hQ550
    have N550 := Fr.app N537 Nq550
    refine own_go (B := T550.setTop (mkF m 88 #[.val (.int p1), .val (.int p2), .val (.int p3), .val (.int p4), .val (.int (1 : Int32)), .val (.ref rr_449), .val (.ref rr_454), .val (.ref rr_460), .val (.ref b508), .unset] [(.ref b508)])) (fun t k => st550.trans k) ?_
    refine own_go (B := T550.setTop (mkF m 99 #[.val (.int p1), .val (.int p2), .val (.int p3), .val (.int p4), .val (.int (1 : Int32)), .val (.ref rr_449), .val (.ref rr_454), .val (.ref rr_460), .val (.ref b508), .val (.ref b508)] [(.ref b508)])) (fun t k => ?_) ?_
    · refine XS.astore X550.here hx rfl (hb hby at_88) rfl rfl (l' := #[.val (.int p1), .val (.int p2), .val (.int p3), .val (.int p4), .val (.int (1 : Int32)), .val (.ref rr_449), .val (.ref rr_454), .val (.ref rr_460), .val (.ref b508), .val (.ref b508)]) rfl ?_
      refine XS.aload X550.here hx rfl (hb hby at_90) rfl rfl ?_
      refine XS.ifnonnullYes X550.here hx rfl (pc0 := 92) (pc' := 97) rfl (hb hby at_92) rfl (by decide) (by decide) ?_
      refine XS.aload X550.here hx rfl (hb hby at_97) rfl rfl ?_
      exact k
    obtain ⟨cq551, kq551, q551a, q551b, q551c⟩ := isOf hZ e550 Q545
    obtain ⟨_, _, ⟨T551, L551, k551, n551⟩, -, X551, ⟨Lc551, hQ551, l551, y551, z551⟩, st551⟩ := X550.interfaceBack hx (xi := (⟨"java/util/List", "size", "()I"⟩ : MethodName)) (y := (⟨"java/util/ArrayList", "size", "()I"⟩ : MethodName)) hown (mvT hZ (own_w hw 85 rfl)) (mvT hZ (own_w hw 86 rfl)) (mvT hZ (own_w hw 87 rfl)) (mvT hZ (own_w hw 88 rfl)) (mvT hZ (own_w hw 89 rfl)) (mvT hZ (own_w hw 90 rfl)) (mvT hZ (own_w hw 91 rfl)) (mvT hZ (own_w hw 92 rfl)) (by decide) (backOf (W := 0) (sz_1 l Z a0 hw [] b508 T537.heap n0 Z537 Q546) hZ (own_w hw 93 rfl) (own_w hw 39 rfl) (by decide) (by decide)) q551a q551b q551c (g := (mkF m 99 #[.val (.int p1), .val (.int p2), .val (.int p3), .val (.int p4), .val (.int (1 : Int32)), .val (.ref rr_449), .val (.ref rr_454), .val (.ref rr_460), .val (.ref b508), .val (.ref b508)] [(.ref b508)])) rfl (by rw [hml]; rfl) (Steps.refl _) (argsL := []) (rest := []) (lenOf pd_17 rfl) rfl (by show 2 * 0 + _ ≤ _; exact Nat.le_of_eq rfl) (hb hby at_99) (fun _ _ => ⟨rfl, e550, (by decide : 21 + 0 ≤ _), (by decide : 135 + 0 ≤ _)⟩)
    dsimp only [Pt.U, Pt.locs, Pt.cells, Pt.slots] at X551 l551 y551 z551 st551 hQ551
    subst l551 y551 z551
    obtain ⟨rfl, Nq551, e551⟩ := hQ551
    have N551 := Fr.app N550 Nq551
    refine own_go (B := T551.setTop (mkF m 104 #[.val (.int p1), .val (.int p2), .val (.int p3), .val (.int p4), .val (.int (1 : Int32)), .val (.ref rr_449), .val (.ref rr_454), .val (.ref rr_460), .val (.ref b508), .val (.ref b508)] [(.int (1 : Int32))])) (fun t k => st551.trans k) ?_
    refine own_go (B := T551.setTop (mkF m 113 #[.val (.int p1), .val (.int p2), .val (.int p3), .val (.int p4), .val (.int (1 : Int32)), .val (.ref rr_449), .val (.ref rr_454), .val (.ref rr_460), .val (.ref b508), .val (.ref b508)] [(.ref b508)])) (fun t k => ?_) ?_
    · refine XS.iload X551.here hx rfl (hb hby at_104) rfl ?_
      refine XS.icmpYes X551.here hx rfl (pc0 := 106) (pc' := 111) rfl (hb hby at_106) rfl (teq (rfl : (1 : Int32) = (1 : Int32))).1 (by decide) (by decide) ?_
      refine XS.aload X551.here hx rfl (hb hby at_111) rfl rfl ?_
      exact k
    obtain ⟨cq553, kq553, q553a, q553b, q553c⟩ := isOf hZ e551 Q545
    obtain ⟨_, _, ⟨T553, L553, k553, n553⟩, -, X553, ⟨Lc553, hQ553, l553, y553, z553⟩, st553⟩ := X551.interfaceBack hx (xi := (⟨"java/util/List", "size", "()I"⟩ : MethodName)) (y := (⟨"java/util/ArrayList", "size", "()I"⟩ : MethodName)) hown (mvT hZ (own_w hw 85 rfl)) (mvT hZ (own_w hw 86 rfl)) (mvT hZ (own_w hw 87 rfl)) (mvT hZ (own_w hw 88 rfl)) (mvT hZ (own_w hw 89 rfl)) (mvT hZ (own_w hw 90 rfl)) (mvT hZ (own_w hw 91 rfl)) (mvT hZ (own_w hw 92 rfl)) (by decide) (backOf (W := 0) (sz_1 l Z a0 hw [] b508 T537.heap n0 Z537 Q546) hZ (own_w hw 93 rfl) (own_w hw 39 rfl) (by decide) (by decide)) q553a q553b q553c (g := (mkF m 113 #[.val (.int p1), .val (.int p2), .val (.int p3), .val (.int p4), .val (.int (1 : Int32)), .val (.ref rr_449), .val (.ref rr_454), .val (.ref rr_460), .val (.ref b508), .val (.ref b508)] [(.ref b508)])) rfl (by rw [hml]; rfl) (Steps.refl _) (argsL := []) (rest := []) (lenOf pd_17 rfl) rfl (by show 2 * 0 + _ ≤ _; exact Nat.le_of_eq rfl) (hb hby at_113) (fun _ _ => ⟨rfl, e551, (by decide : 21 + 0 ≤ _), (by decide : 135 + 0 ≤ _)⟩)
    dsimp only [Pt.U, Pt.locs, Pt.cells, Pt.slots] at X553 l553 y553 z553 st553 hQ553
    subst l553 y553 z553
    obtain ⟨rfl, Nq553, e553⟩ := hQ553
    have N553 := Fr.app N551 Nq553
    refine own_go (B := T553.setTop (mkF m 118 #[.val (.int p1), .val (.int p2), .val (.int p3), .val (.int p4), .val (.int (1 : Int32)), .val (.ref rr_449), .val (.ref rr_454), .val (.ref rr_460), .val (.ref b508), .val (.ref b508)] [(.int (1 : Int32))])) (fun t k => st553.trans k) ?_
    refine own_go (B := T553.setTop (mkF m 136 #[.val (.int p1), .val (.int p2), .val (.int p3), .val (.int p4), .val (.int (1 : Int32)), .val (.ref rr_449), .val (.ref rr_454), .val (.ref rr_460), .val (.ref b508), .val (.ref b508)] [(.int (0 : Int32)), (.ref b508), (.ref rr_449)])) (fun t k => ?_) ?_
    · refine XS.iload X553.here hx rfl (hb hby at_118) rfl ?_
      refine XS.icmpYes X553.here hx rfl (pc0 := 120) (pc' := 125) rfl (hb hby at_120) rfl (teq (rfl : (1 : Int32) = (1 : Int32))).1 (by decide) (by decide) ?_
      refine XS.iload X553.here hx rfl (hb hby at_125) rfl ?_
      refine XS.iconst X553.here hx rfl (hb hby at_127) ?_
      refine XS.icmpNo X553.here hx rfl (hb hby at_128) rfl (flt Int32.lt_irrefl).1 ?_
      refine XS.aload X553.here hx rfl (hb hby at_131) rfl rfl ?_
      refine XS.aload X553.here hx rfl (hb hby at_133) rfl rfl ?_
      refine XS.iconst X553.here hx rfl (hb hby at_135) ?_
      exact k
    obtain ⟨cq556, kq556, q556a, q556b, q556c⟩ := isOf hZ e553 Q545
    obtain ⟨_, _, ⟨T556, L556, k556, n556⟩, -, X556, ⟨Lc556, hQ556, l556, y556, z556⟩, st556⟩ := X553.interfaceBack hx (xi := (⟨"java/util/List", "get", "(I)Ljava/lang/Object;"⟩ : MethodName)) (y := (⟨"java/util/ArrayList", "get", "(I)Ljava/lang/Object;"⟩ : MethodName)) hown (mvT hZ (own_w hw 129 rfl)) (mvT hZ (own_w hw 130 rfl)) (mvT hZ (own_w hw 131 rfl)) (mvT hZ (own_w hw 132 rfl)) (mvT hZ (own_w hw 133 rfl)) (mvT hZ (own_w hw 134 rfl)) (mvT hZ (own_w hw 135 rfl)) (mvT hZ (own_w hw 92 rfl)) (by decide) (backOf (W := 1) (get_0_1 l Z a0 hw [] b508 br_526 kb_526 rr_449 T537.heap n0 Z537 Q545 Q546 Q547 Q549) hZ (own_w hw 136 rfl) (own_w hw 39 rfl) (by decide) (by decide)) q556a q556b q556c (g := (mkF m 136 #[.val (.int p1), .val (.int p2), .val (.int p3), .val (.int p4), .val (.int (1 : Int32)), .val (.ref rr_449), .val (.ref rr_454), .val (.ref rr_460), .val (.ref b508), .val (.ref b508)] [(.int (0 : Int32)), (.ref b508), (.ref rr_449)])) rfl (by rw [hml]; rfl) (Steps.refl _) (argsL := [(.int (0 : Int32))]) (rest := [(.ref rr_449)]) (lenOf pd_11 rfl) rfl (by show 2 * 0 + _ ≤ _; exact Nat.le_of_eq rfl) (hb hby at_136) (fun _ _ => ⟨rfl, e553, (by decide : 21 + 0 ≤ _), (by decide : 135 + 0 ≤ _)⟩)
    dsimp only [Pt.U, Pt.locs, Pt.cells, Pt.slots] at X556 l556 y556 z556 st556 hQ556
    subst l556 y556 z556
    obtain ⟨rfl, Nq556, e556⟩ := hQ556
    have N556 := Fr.app N553 Nq556
    refine own_go (B := T556.setTop (mkF m 141 #[.val (.int p1), .val (.int p2), .val (.int p3), .val (.int p4), .val (.int (1 : Int32)), .val (.ref rr_449), .val (.ref rr_454), .val (.ref rr_460), .val (.ref b508), .val (.ref b508)] [(.ref rr_449), (.ref rr_449)])) (fun t k => st556.trans k) ?_
    obtain ⟨cq557, kq557, q557a, q557b, q557c⟩ := isOf hZ e556 Q542
    obtain ⟨_, _, ⟨T557, L557, k557, n557⟩, -, X557, ⟨Lc557, hQ557, l557, y557, z557⟩, st557⟩ := X556.virtualBack hx (y := (⟨"java/lang/String", "equals", "(Ljava/lang/Object;)Z"⟩ : MethodName)) (z := (⟨"java/lang/String", "equals", "(Ljava/lang/Object;)Z"⟩ : MethodName)) hown (mvT hZ (own_w hw 150 rfl)) (mvT hZ (own_w hw 151 rfl)) (notFace_of_selects (args := #[]) (mvT hZ (own_w hw 153 rfl))) (mvT hZ (own_w hw 153 rfl)) (mvT hZ (own_w hw 152 rfl)) (by decide) (backOf (W := 0) (eqs l Z a0 hw [] rr_449 rr_449 T537.heap n0 Z537 rfl) hZ (own_w hw 154 rfl) (own_w hw 5 rfl) (by decide) (by decide)) q557a q557c (g := (mkF m 141 #[.val (.int p1), .val (.int p2), .val (.int p3), .val (.int p4), .val (.int (1 : Int32)), .val (.ref rr_449), .val (.ref rr_454), .val (.ref rr_460), .val (.ref b508), .val (.ref b508)] [(.ref rr_449), (.ref rr_449)])) rfl (by rw [hml]; rfl) (Steps.refl _) (argsL := [(.ref rr_449)]) (rest := []) (lenOf pd_18 rfl) rfl (by show 2 * 0 + _ ≤ _; exact Nat.le_of_eq rfl) (hb hby at_141) (fun _ _ => ⟨rfl, e556, (by decide : 21 + 0 ≤ _), (by decide : 135 + 0 ≤ _)⟩)
    dsimp only [Pt.U, Pt.locs, Pt.cells, Pt.slots] at X557 l557 y557 z557 st557 hQ557
    subst l557 y557 z557
    obtain ⟨rfl, Nq557, e557⟩ := hQ557
    have N557 := Fr.app N556 Nq557
    refine own_go (B := T557.setTop (mkF m 144 #[.val (.int p1), .val (.int p2), .val (.int p3), .val (.int p4), .val (.int (1 : Int32)), .val (.ref rr_449), .val (.ref rr_454), .val (.ref rr_460), .val (.ref b508), .val (.ref b508)] [(.int (1 : Int32))])) (fun t k => st557.trans k) ?_
    refine own_go (B := T557.setTop (mkF m 198 #[.val (.int p1), .val (.int p2), .val (.int p3), .val (.int p4), .val (.int (1 : Int32)), .val (.ref rr_449), .val (.ref rr_454), .val (.ref rr_460), .val (.ref b508), .val (.ref b508)] [(.int (1 : Int32))])) (fun t k => ?_) ?_
    · refine XS.ifYes X557.here hx rfl (pc0 := 144) (pc' := 149) rfl (hb hby at_144) rfl ((if0 _ _).trans (feq (by decide : ¬ ((1 : Int32) = (0 : Int32)))).2) (by decide) (by decide) ?_
      refine XS.iload X557.here hx rfl (hb hby at_149) rfl ?_
      refine XS.iconst X557.here hx rfl (hb hby at_151) ?_
      refine XS.icmpYes X557.here hx rfl (pc0 := 152) (pc' := 173) rfl (hb hby at_152) rfl (tlt (by decide : ((1 : Int32) < (2 : Int32)))).1 (by decide) (by decide) ?_
      refine XS.iload X557.here hx rfl (hb hby at_173) rfl ?_
      refine XS.iconst X557.here hx rfl (hb hby at_175) ?_
      refine XS.icmpYes X557.here hx rfl (pc0 := 176) (pc' := 197) rfl (hb hby at_176) rfl (tlt (by decide : ((1 : Int32) < (3 : Int32)))).1 (by decide) (by decide) ?_
      refine XS.iconst X557.here hx rfl (hb hby at_197) ?_
      exact k
    obtain ⟨fs, hr, hrun, hended, hq⟩ := X557.leaveW hS460 (by rw [e557]; exact hk537) (v := some (.int (1 : Int32))) (fun h => by rw [Bd.returns] at h; cases h)
    refine ⟨_, _, ?_, hrun, hended, _, _, rfl, ?_, hq.1, hq.2.1, hq.2.2.1, hq.2.2.2.mono (by decide) (by decide)⟩
    · show Steps p.tables e below (T557.setTop (mkF m 198 #[.val (.int p1), .val (.int p2), .val (.int p3), .val (.int p4), .val (.int (1 : Int32)), .val (.ref rr_449), .val (.ref rr_454), .val (.ref rr_460), .val (.ref b508), .val (.ref b508)] [(.int (1 : Int32))])) _
      exact retN X557 hx (t := .boolean) Bd.returns (by simp) (hb hby at_198) hr
    · show Qrm0 Z p1 p2 p3 p4 cs de kd oe h0 n0 _ T557.heap _
      rw [e557]
      exact ⟨rfl, N557⟩
  · rw [hk467]
    obtain ⟨T561, h561, X561, e561, E561, A561, D561, -, st561⟩ := newO X460 hx hZ hown (own_w hw 37 rfl) (own_w hw 38 rfl) (own_w hw 39 rfl) rfl (g := (mkF m 23 #[.val (.int p1), .val (.int p2), .val (.int p3), .val (.int p4), .val (.int (2 : Int32)), .val (.ref rr_449), .val (.ref rr_454), .val (.ref rr_460), .unset, .unset] [])) rfl (hb hby at_23) (by decide) (by decide)
    obtain ⟨b561, g561⟩ : ∃ z, z = T460.heap.size := ⟨_, rfl⟩
    rw [← g561] at A561 D561 st561
    have ne561_de : de ≠ b561 := Nat.ne_of_lt (Nat.lt_of_lt_of_le Q463.lt (Nat.le_of_eq g561.symm))
    have ne561_rr_449 : rr_449 ≠ b561 := Nat.ne_of_lt (Nat.lt_of_lt_of_le Q465.lt (Nat.le_of_eq g561.symm))
    have ne561_rr_454 : rr_454 ≠ b561 := Nat.ne_of_lt (Nat.lt_of_lt_of_le Q466.lt (Nat.le_of_eq g561.symm))
    have ne561_rr_460 : rr_460 ≠ b561 := Nat.ne_of_lt (Nat.lt_of_lt_of_le U460_0.lt (Nat.le_of_eq g561.symm))
    have low561 : n0 ≤ b561 := Nat.le_trans Z460 (Nat.le_of_eq g561.symm)
    have hk561 := Nat.le_trans hkq460 E561.1
    have Q562 : Sta Z h561 "java/lang/String" "COMPACT_STRINGS" "Z" (.int cs) := Q461.ext E561
    have Q563 : Sta Z h561 "java/util/ArrayList" "DEFAULTCAPACITY_EMPTY_ELEMENTDATA" "[Ljava/lang/Object;" (.ref de) := Q462.ext E561
    have Q564 : Arv Z h561 de kd (.object "java/lang/Object") (0 : Int32) [] .null := Q463.ext E561
    have Q565 : Sta Z h561 "java/util/Optional" "EMPTY" "Ljava/util/Optional;" (.ref oe) := Q464.ext E561
    have Q566 : Exa Z h561 rr_449 "java/lang/String" := Q465.ext E561
    have Q567 : Exa Z h561 rr_454 "java/lang/String" := Q466.ext E561
    have Q568 : Exa Z h561 rr_460 "java/lang/String" := U460_0.ext E561
    have Z561 : n0 ≤ h561.size := Nat.le_trans Z460 E561.1
    have D561_modCount_AbstractList : Fld Z h561 b561 "java/util/AbstractList" "modCount" "I" (.int (0 : Int32)) := D561 (Or.inl (own_w hw 57 rfl)) (ty := .int) (by decide)
    have D561_elementData_ArrayList : Fld Z h561 b561 "java/util/ArrayList" "elementData" "[Ljava/lang/Object;" .null := D561 (Or.inl (own_w hw 60 rfl)) (ty := (.array (.object "java/lang/Object"))) (by decide)
    have D561_size_ArrayList : Fld Z h561 b561 "java/util/ArrayList" "size" "I" (.int (0 : Int32)) := D561 (Or.inl (own_w hw 95 rfl)) (ty := .int) (by decide)
    refine own_go st561 ?_
    refine own_go (B := T561.setTop (mkF m 27 #[.val (.int p1), .val (.int p2), .val (.int p3), .val (.int p4), .val (.int (2 : Int32)), .val (.ref rr_449), .val (.ref rr_454), .val (.ref rr_460), .unset, .unset] [(.ref b561), (.ref b561)])) (fun t k => ?_) ?_
    · refine XS.dup X561.here hx rfl (hb hby at_26) rfl rfl ?_
      exact k
    obtain ⟨_, _, ⟨T569, L569, k569, n569⟩, -, X569, ⟨Lc569, hQ569, l569, y569, z569⟩, st569⟩ := X561.specialBack hx (y := (⟨"java/util/ArrayList", "<init>", "()V"⟩ : MethodName)) rfl hown (mvT hZ (own_w hw 40 rfl)) (mvT hZ (own_w hw 41 rfl)) (mvT hZ (own_w hw 42 rfl)) (by decide) (backOf (W := 1) (alI l Z a0 hw [] b561 de h561 n0 Z561 A561 D561_modCount_AbstractList D561_elementData_ArrayList D561_size_ArrayList Q563 low561) hZ (own_w hw 42 rfl) (own_w hw 39 rfl) (by decide) (by decide)) (g := (mkF m 27 #[.val (.int p1), .val (.int p2), .val (.int p3), .val (.int p4), .val (.int (2 : Int32)), .val (.ref rr_449), .val (.ref rr_454), .val (.ref rr_460), .unset, .unset] [(.ref b561), (.ref b561)])) rfl (by rw [hml]; rfl) (Steps.refl _) (a := b561) (argsL := []) (rest := [(.ref b561)]) (lenOf pd_5 rfl) rfl (by show 2 * 0 + _ ≤ _; exact Nat.le_of_eq rfl) (hb hby at_27) (fun _ _ => ⟨rfl, e561, (by decide : 19 + 0 ≤ _), (by decide : 123 + 0 ≤ _)⟩)
    dsimp only [Pt.U, Pt.locs, Pt.cells, Pt.slots] at X569 l569 y569 z569 st569 hQ569
    subst l569 y569 z569
    obtain ⟨rfl, Nq569, Kq569, U569_0, U569_1, U569_2⟩ := hQ569
    have hk569 := Nat.le_trans hk561 Kq569.1
    have Q570 : Sta Z T569.heap "java/lang/String" "COMPACT_STRINGS" "Z" (.int cs) := own_staK Q562 Kq569 (nsS (own_nsE A561) ns0)
    have Q571 : Sta Z T569.heap "java/util/ArrayList" "DEFAULTCAPACITY_EMPTY_ELEMENTDATA" "[Ljava/lang/Object;" (.ref de) := own_staK Q563 Kq569 (nsS (own_nsE A561) ns0)
    have Q572 : Arv Z T569.heap de kd (.object "java/lang/Object") (0 : Int32) [] .null := Q564.keep Kq569 (ninS ne561_de nin0)
    have Q573 : Sta Z T569.heap "java/util/Optional" "EMPTY" "Ljava/util/Optional;" (.ref oe) := own_staK Q565 Kq569 (nsS (own_nsE A561) ns0)
    have Q574 : Exa Z T569.heap rr_449 "java/lang/String" := Q566.keep Kq569
    have Q575 : Exa Z T569.heap rr_454 "java/lang/String" := Q567.keep Kq569
    have Q576 : Exa Z T569.heap rr_460 "java/lang/String" := Q568.keep Kq569
    have Q577 : Exa Z T569.heap b561 "java/util/ArrayList" := A561.keep Kq569
    have Z569 : n0 ≤ T569.heap.size := Nat.le_trans Z561 Kq569.1
    have N569 := Fr.app N460 Nq569
    refine own_go (B := T569.setTop (mkF m 30 #[.val (.int p1), .val (.int p2), .val (.int p3), .val (.int p4), .val (.int (2 : Int32)), .val (.ref rr_449), .val (.ref rr_454), .val (.ref rr_460), .unset, .unset] [(.ref b561)])) (fun t k => st569.trans k) ?_
    refine own_go (B := T569.setTop (mkF m 42 #[.val (.int p1), .val (.int p2), .val (.int p3), .val (.int p4), .val (.int (2 : Int32)), .val (.ref rr_449), .val (.ref rr_454), .val (.ref rr_460), .val (.ref b561), .unset] [(.ref rr_449), (.ref b561)])) (fun t k => ?_) ?_
    · refine XS.astore X569.here hx rfl (hb hby at_30) rfl rfl (l' := #[.val (.int p1), .val (.int p2), .val (.int p3), .val (.int p4), .val (.int (2 : Int32)), .val (.ref rr_449), .val (.ref rr_454), .val (.ref rr_460), .val (.ref b561), .unset]) rfl ?_
      refine XS.iload X569.here hx rfl (hb hby at_32) rfl ?_
      refine XS.iconst X569.here hx rfl (hb hby at_34) ?_
      refine XS.icmpNo X569.here hx rfl (hb hby at_35) rfl (flt (by decide : ¬ ((2 : Int32) < (1 : Int32)))).1 ?_
      refine XS.aload X569.here hx rfl (hb hby at_38) rfl rfl ?_
      refine XS.aload X569.here hx rfl (hb hby at_40) rfl rfl ?_
      exact k
    obtain ⟨cq579, kq579, q579a, q579b, q579c⟩ := isOf hZ rfl Q577
    obtain ⟨_, _, ⟨T579, L579, k579, n579⟩, -, X579, ⟨Lc579, hQ579, l579, y579, z579⟩, st579⟩ := X569.interfaceBack hx (xi := (⟨"java/util/List", "add", "(Ljava/lang/Object;)Z"⟩ : MethodName)) (y := (⟨"java/util/ArrayList", "add", "(Ljava/lang/Object;)Z"⟩ : MethodName)) hown (mvT hZ (own_w hw 97 rfl)) (mvT hZ (own_w hw 98 rfl)) (mvT hZ (own_w hw 99 rfl)) (mvT hZ (own_w hw 100 rfl)) (mvT hZ (own_w hw 101 rfl)) (mvT hZ (own_w hw 102 rfl)) (mvT hZ (own_w hw 103 rfl)) (mvT hZ (own_w hw 92 rfl)) (by decide) (backOf (W := 0) (ad1_0 l Z a0 hw [] b561 rr_449 de kd (0 : Int32) T569.heap n0 Z569 Q577 Q574 U569_2 U569_1 U569_0 Q571 Q572 low561 ne561_de) hZ (own_w hw 104 rfl) (own_w hw 39 rfl) (by decide) (by decide)) q579a q579b q579c (g := (mkF m 42 #[.val (.int p1), .val (.int p2), .val (.int p3), .val (.int p4), .val (.int (2 : Int32)), .val (.ref rr_449), .val (.ref rr_454), .val (.ref rr_460), .val (.ref b561), .unset] [(.ref rr_449), (.ref b561)])) rfl (by rw [hml]; rfl) (Steps.refl _) (argsL := [(.ref rr_449)]) (rest := []) (lenOf pd_18 rfl) rfl (by show 2 * 0 + _ ≤ _; exact Nat.le_of_eq rfl) (hb hby at_42) (fun _ _ => ⟨rfl, rfl, (by decide : 19 + 1 ≤ _), (by decide : 123 + 10 ≤ _)⟩)
    dsimp only [Pt.U, Pt.locs, Pt.cells, Pt.slots] at X579 l579 y579 z579 st579 hQ579
    subst l579 y579 z579
    obtain ⟨br_579, kb_579, rfl, Nq579, Kq579, sq_br_579, pq579_0, U579_0, U579_1, U579_2, U579_3, Pq579_0⟩ := hQ579
    have ne_b561_br_579 : b561 ≠ br_579 := Nat.ne_of_lt (Nat.lt_of_lt_of_le Q577.lt sq_br_579)
    have ne_de_br_579 : de ≠ br_579 := Nat.ne_of_lt (Nat.lt_of_lt_of_le Q572.lt sq_br_579)
    have ne_rr_449_br_579 : rr_449 ≠ br_579 := Nat.ne_of_lt (Nat.lt_of_lt_of_le Q574.lt sq_br_579)
    have ne_rr_454_br_579 : rr_454 ≠ br_579 := Nat.ne_of_lt (Nat.lt_of_lt_of_le Q575.lt sq_br_579)
    have ne_rr_460_br_579 : rr_460 ≠ br_579 := Nat.ne_of_lt (Nat.lt_of_lt_of_le Q576.lt sq_br_579)
    have low_br_579 : n0 ≤ br_579 := Nat.le_trans Z569 sq_br_579
    have hk579 := Nat.le_trans hk569 Kq579.1
    have Q580 : Sta Z T579.heap "java/lang/String" "COMPACT_STRINGS" "Z" (.int cs) := own_staK Q570 Kq579 (nsS (own_nsE Q577) ns0)
    have Q581 : Sta Z T579.heap "java/util/ArrayList" "DEFAULTCAPACITY_EMPTY_ELEMENTDATA" "[Ljava/lang/Object;" (.ref de) := own_staK Q571 Kq579 (nsS (own_nsE Q577) ns0)
    have Q582 : Arv Z T579.heap de kd (.object "java/lang/Object") (0 : Int32) [] .null := Q572.keep Kq579 (ninS ne561_de nin0)
    have Q583 : Sta Z T579.heap "java/util/Optional" "EMPTY" "Ljava/util/Optional;" (.ref oe) := own_staK Q573 Kq579 (nsS (own_nsE Q577) ns0)
    have Q584 : Exa Z T579.heap rr_449 "java/lang/String" := Q574.keep Kq579
    have Q585 : Exa Z T579.heap rr_454 "java/lang/String" := Q575.keep Kq579
    have Q586 : Exa Z T579.heap rr_460 "java/lang/String" := Q576.keep Kq579
    have Q587 : Exa Z T579.heap b561 "java/util/ArrayList" := Q577.keep Kq579
    have Z579 : n0 ≤ T579.heap.size := Nat.le_trans Z569 Kq579.1
    have N579 := Fr.app N569 Nq579
    refine own_go (B := T579.setTop (mkF m 47 #[.val (.int p1), .val (.int p2), .val (.int p3), .val (.int p4), .val (.int (2 : Int32)), .val (.ref rr_449), .val (.ref rr_454), .val (.ref rr_460), .val (.ref b561), .unset] [(.int (1 : Int32))])) (fun t k => st579.trans k) ?_
    refine own_go (B := T579.setTop (mkF m 58 #[.val (.int p1), .val (.int p2), .val (.int p3), .val (.int p4), .val (.int (2 : Int32)), .val (.ref rr_449), .val (.ref rr_454), .val (.ref rr_460), .val (.ref b561), .unset] [(.ref rr_454), (.ref b561)])) (fun t k => ?_) ?_
    · refine XS.pop X579.here hx rfl (hb hby at_47) rfl rfl ?_
      refine XS.iload X579.here hx rfl (hb hby at_48) rfl ?_
      refine XS.iconst X579.here hx rfl (hb hby at_50) ?_
      refine XS.icmpNo X579.here hx rfl (hb hby at_51) rfl (flt Int32.lt_irrefl).1 ?_
      refine XS.aload X579.here hx rfl (hb hby at_54) rfl rfl ?_
      refine XS.aload X579.here hx rfl (hb hby at_56) rfl rfl ?_
      exact k
    obtain ⟨cq589, kq589, q589a, q589b, q589c⟩ := isOf hZ rfl Q587
    obtain ⟨_, _, ⟨T589, L589, k589, n589⟩, -, X589, ⟨Lc589, hQ589, l589, y589, z589⟩, st589⟩ := X579.interfaceBack hx (xi := (⟨"java/util/List", "add", "(Ljava/lang/Object;)Z"⟩ : MethodName)) (y := (⟨"java/util/ArrayList", "add", "(Ljava/lang/Object;)Z"⟩ : MethodName)) hown (mvT hZ (own_w hw 97 rfl)) (mvT hZ (own_w hw 98 rfl)) (mvT hZ (own_w hw 99 rfl)) (mvT hZ (own_w hw 100 rfl)) (mvT hZ (own_w hw 101 rfl)) (mvT hZ (own_w hw 102 rfl)) (mvT hZ (own_w hw 103 rfl)) (mvT hZ (own_w hw 92 rfl)) (by decide) (backOf (W := 0) (ad1_1 l Z a0 hw [] b561 rr_454 br_579 kb_579 ((0 : Int32) + (1 : Int32)) rr_449 T579.heap n0 Z579 Q587 Q585 U579_0 U579_1 U579_2 U579_3 low561 low_br_579 ne_b561_br_579 Pq579_0) hZ (own_w hw 104 rfl) (own_w hw 39 rfl) (by decide) (by decide)) q589a q589b q589c (g := (mkF m 58 #[.val (.int p1), .val (.int p2), .val (.int p3), .val (.int p4), .val (.int (2 : Int32)), .val (.ref rr_449), .val (.ref rr_454), .val (.ref rr_460), .val (.ref b561), .unset] [(.ref rr_454), (.ref b561)])) rfl (by rw [hml]; rfl) (Steps.refl _) (argsL := [(.ref rr_454)]) (rest := []) (lenOf pd_18 rfl) rfl (by show 2 * 0 + _ ≤ _; exact Nat.le_of_eq rfl) (hb hby at_58) (fun _ _ => ⟨rfl, rfl, (by decide : 20 + 0 ≤ _), (by decide : 133 + 0 ≤ _)⟩)
    dsimp only [Pt.U, Pt.locs, Pt.cells, Pt.slots] at X589 l589 y589 z589 st589 hQ589
    subst l589 y589 z589
    obtain ⟨rfl, Nq589, Kq589, U589_0, U589_1, U589_2, U589_3⟩ := hQ589
    have hk589 := Nat.le_trans hk579 Kq589.1
    have Q590 : Sta Z T589.heap "java/lang/String" "COMPACT_STRINGS" "Z" (.int cs) := own_staK Q580 Kq589 (nsS (own_nsE Q587) (nsS (own_nsV U579_3) ns0))
    have Q591 : Sta Z T589.heap "java/util/ArrayList" "DEFAULTCAPACITY_EMPTY_ELEMENTDATA" "[Ljava/lang/Object;" (.ref de) := own_staK Q581 Kq589 (nsS (own_nsE Q587) (nsS (own_nsV U579_3) ns0))
    have Q592 : Arv Z T589.heap de kd (.object "java/lang/Object") (0 : Int32) [] .null := Q582.keep Kq589 (ninS ne561_de (ninS ne_de_br_579 nin0))
    have Q593 : Sta Z T589.heap "java/util/Optional" "EMPTY" "Ljava/util/Optional;" (.ref oe) := own_staK Q583 Kq589 (nsS (own_nsE Q587) (nsS (own_nsV U579_3) ns0))
    have Q594 : Exa Z T589.heap rr_449 "java/lang/String" := Q584.keep Kq589
    have Q595 : Exa Z T589.heap rr_454 "java/lang/String" := Q585.keep Kq589
    have Q596 : Exa Z T589.heap rr_460 "java/lang/String" := Q586.keep Kq589
    have Q597 : Exa Z T589.heap b561 "java/util/ArrayList" := Q587.keep Kq589
    have Z589 : n0 ≤ T589.heap.size := Nat.le_trans Z579 Kq589.1
    have N589 := Fr.app N579 Nq589
    refine own_go (B := T589.setTop (mkF m 63 #[.val (.int p1), .val (.int p2), .val (.int p3), .val (.int p4), .val (.int (2 : Int32)), .val (.ref rr_449), .val (.ref rr_454), .val (.ref rr_460), .val (.ref b561), .unset] [(.int (1 : Int32))])) (fun t k => st589.trans k) ?_
    refine own_go (B := T589.setTop (mkF m 82 #[.val (.int p1), .val (.int p2), .val (.int p3), .val (.int p4), .val (.int (2 : Int32)), .val (.ref rr_449), .val (.ref rr_454), .val (.ref rr_460), .val (.ref b561), .unset] [(.ref b561)])) (fun t k => ?_) ?_
    · refine XS.pop X589.here hx rfl (hb hby at_63) rfl rfl ?_
      refine XS.iload X589.here hx rfl (hb hby at_64) rfl ?_
      refine XS.iconst X589.here hx rfl (hb hby at_66) ?_
      refine XS.icmpYes X589.here hx rfl (pc0 := 67) (pc' := 80) rfl (hb hby at_67) rfl (tlt (by decide : ((2 : Int32) < (3 : Int32)))).1 (by decide) (by decide) ?_
      refine XS.aload X589.here hx rfl (hb hby at_80) rfl rfl ?_
      exact k
    obtain ⟨_, _, ⟨T599, L599, k599, n599⟩, -, X599, ⟨Lc599, hQ599, l599, y599, z599⟩, st599⟩ := Jvm.LawKit.callS X589 hx (y := (⟨"com/example/axiomwright/axiomwright/cli/Timings", "none", "(Ljava/util/List;)Lcom/example/axiomwright/axiomwright/cli/Timings;"⟩ : MethodName)) hown (mvT hZ (own_w hw 61 rfl)) (mvT hZ (own_w hw 62 rfl)) (mvT hZ (own_w hw 63 rfl)) (mvT hZ (own_w hw 64 rfl)) (by decide) (backOf (W := 0) (non l Z a0 hw [] b561 oe T589.heap n0 Z589 Q593) hZ (own_w hw 64 rfl) (own_w hw 63 rfl) (by decide) (by decide)) (g := (mkF m 82 #[.val (.int p1), .val (.int p2), .val (.int p3), .val (.int p4), .val (.int (2 : Int32)), .val (.ref rr_449), .val (.ref rr_454), .val (.ref rr_460), .val (.ref b561), .unset] [(.ref b561)])) rfl (by rw [hml]; rfl) (argsL := [(.ref b561)]) (rest := []) (lenOf pd_15 rfl) rfl (by show 2 * 0 + _ ≤ _; exact Nat.le_of_eq rfl) (hb hby at_82) (fun _ _ => ⟨rfl, rfl, (by decide : 20 + 1 ≤ _), (by decide : 133 + 2 ≤ _)⟩)
    dsimp only [Pt.U, Pt.locs, Pt.cells, Pt.slots] at X599 l599 y599 z599 st599 hQ599
    subst l599 y599 z599
    obtain ⟨tt_599, rfl, Nq599, Kq599, sq_tt_599, U599_0, U599_1⟩ := hQ599
    have ne_b561_tt_599 : b561 ≠ tt_599 := Nat.ne_of_lt (Nat.lt_of_lt_of_le Q597.lt sq_tt_599)
    have ne_br_579_tt_599 : br_579 ≠ tt_599 := Nat.ne_of_lt (Nat.lt_of_lt_of_le U589_3.lt sq_tt_599)
    have ne_de_tt_599 : de ≠ tt_599 := Nat.ne_of_lt (Nat.lt_of_lt_of_le Q592.lt sq_tt_599)
    have ne_rr_449_tt_599 : rr_449 ≠ tt_599 := Nat.ne_of_lt (Nat.lt_of_lt_of_le Q594.lt sq_tt_599)
    have ne_rr_454_tt_599 : rr_454 ≠ tt_599 := Nat.ne_of_lt (Nat.lt_of_lt_of_le Q595.lt sq_tt_599)
    have ne_rr_460_tt_599 : rr_460 ≠ tt_599 := Nat.ne_of_lt (Nat.lt_of_lt_of_le Q596.lt sq_tt_599)
    have low_tt_599 : n0 ≤ tt_599 := Nat.le_trans Z589 sq_tt_599
    have hk599 := Nat.le_trans hk589 Kq599.1
    have Q600 : Sta Z T599.heap "java/lang/String" "COMPACT_STRINGS" "Z" (.int cs) := Q590.ext (own_extK Kq599)
    have Q601 : Sta Z T599.heap "java/util/ArrayList" "DEFAULTCAPACITY_EMPTY_ELEMENTDATA" "[Ljava/lang/Object;" (.ref de) := Q591.ext (own_extK Kq599)
    have Q602 : Arv Z T599.heap de kd (.object "java/lang/Object") (0 : Int32) [] .null := Q592.ext (own_extK Kq599)
    have Q603 : Sta Z T599.heap "java/util/Optional" "EMPTY" "Ljava/util/Optional;" (.ref oe) := Q593.ext (own_extK Kq599)
    have Q604 : Exa Z T599.heap rr_449 "java/lang/String" := Q594.ext (own_extK Kq599)
    have Q605 : Exa Z T599.heap rr_454 "java/lang/String" := Q595.ext (own_extK Kq599)
    have Q606 : Exa Z T599.heap rr_460 "java/lang/String" := Q596.ext (own_extK Kq599)
    have Q607 : Exa Z T599.heap b561 "java/util/ArrayList" := Q597.ext (own_extK Kq599)
    have Q608 : Fld Z T599.heap b561 "java/util/ArrayList" "size" "I" (.int (2 : Int32)) := U589_0.ext (own_extK Kq599)
    have Q609 : Fld Z T599.heap b561 "java/util/ArrayList" "elementData" "[Ljava/lang/Object;" (.ref br_579) := U589_1.ext (own_extK Kq599)
    have Q610 : Fld Z T599.heap b561 "java/util/AbstractList" "modCount" "I" (.int (((0 : Int32) + (1 : Int32)) + (1 : Int32))) := U589_2.ext (own_extK Kq599)
    have Q611 : Arv Z T599.heap br_579 kb_579 (.object "java/lang/Object") (10 : Int32) [(.ref rr_449), (.ref rr_454), .null, .null, .null, .null, .null, .null, .null, .null] .null := U589_3.ext (own_extK Kq599)
    have Z599 : n0 ≤ T599.heap.size := Nat.le_trans Z589 Kq599.1
    have N599 := Fr.app N589 Nq599
    refine own_go (B := T599.setTop (mkF m 85 #[.val (.int p1), .val (.int p2), .val (.int p3), .val (.int p4), .val (.int (2 : Int32)), .val (.ref rr_449), .val (.ref rr_454), .val (.ref rr_460), .val (.ref b561), .unset] [(.ref tt_599)])) st599 ?_
    obtain ⟨cq612, kq612, q612a, q612b, q612c⟩ := isOf hZ rfl U599_0
    obtain ⟨_, _, ⟨T612, L612, k612, n612⟩, -, X612, ⟨Lc612, hQ612, l612, y612, z612⟩, st612⟩ := X599.virtualBack hx (y := (⟨"com/example/axiomwright/axiomwright/cli/Timings", "arguments", "()Ljava/util/List;"⟩ : MethodName)) (z := (⟨"com/example/axiomwright/axiomwright/cli/Timings", "arguments", "()Ljava/util/List;"⟩ : MethodName)) hown (mvT hZ (own_w hw 80 rfl)) (mvT hZ (own_w hw 81 rfl)) (notFace_of_selects (args := #[]) (mvT hZ (own_w hw 83 rfl))) (mvT hZ (own_w hw 83 rfl)) (mvT hZ (own_w hw 82 rfl)) (by decide) (backOf (W := 0) (arg l Z a0 hw [] tt_599 b561 T599.heap n0 Z599 U599_0 U599_1) hZ (own_w hw 84 rfl) (own_w hw 63 rfl) (by decide) (by decide)) q612a q612c (g := (mkF m 85 #[.val (.int p1), .val (.int p2), .val (.int p3), .val (.int p4), .val (.int (2 : Int32)), .val (.ref rr_449), .val (.ref rr_454), .val (.ref rr_460), .val (.ref b561), .unset] [(.ref tt_599)])) rfl (by rw [hml]; rfl) (Steps.refl _) (argsL := []) (rest := []) (lenOf pd_16 rfl) rfl (by show 2 * 0 + _ ≤ _; exact Nat.le_of_eq rfl) (hb hby at_85) (fun _ _ => ⟨rfl, rfl, (by decide : 21 + 0 ≤ _), (by decide : 135 + 0 ≤ _)⟩)
    dsimp only [Pt.U, Pt.locs, Pt.cells, Pt.slots] at X612 l612 y612 z612 st612 hQ612
    subst l612 y612 z612
    obtain ⟨rfl, Nq612, e612⟩ := hQ612
    have N612 := Fr.app N599 Nq612
    refine own_go (B := T612.setTop (mkF m 88 #[.val (.int p1), .val (.int p2), .val (.int p3), .val (.int p4), .val (.int (2 : Int32)), .val (.ref rr_449), .val (.ref rr_454), .val (.ref rr_460), .val (.ref b561), .unset] [(.ref b561)])) (fun t k => st612.trans k) ?_
    refine own_go (B := T612.setTop (mkF m 99 #[.val (.int p1), .val (.int p2), .val (.int p3), .val (.int p4), .val (.int (2 : Int32)), .val (.ref rr_449), .val (.ref rr_454), .val (.ref rr_460), .val (.ref b561), .val (.ref b561)] [(.ref b561)])) (fun t k => ?_) ?_
    · refine XS.astore X612.here hx rfl (hb hby at_88) rfl rfl (l' := #[.val (.int p1), .val (.int p2), .val (.int p3), .val (.int p4), .val (.int (2 : Int32)), .val (.ref rr_449), .val (.ref rr_454), .val (.ref rr_460), .val (.ref b561), .val (.ref b561)]) rfl ?_
      refine XS.aload X612.here hx rfl (hb hby at_90) rfl rfl ?_
      refine XS.ifnonnullYes X612.here hx rfl (pc0 := 92) (pc' := 97) rfl (hb hby at_92) rfl (by decide) (by decide) ?_
      refine XS.aload X612.here hx rfl (hb hby at_97) rfl rfl ?_
      exact k
    obtain ⟨cq613, kq613, q613a, q613b, q613c⟩ := isOf hZ e612 Q607
    obtain ⟨_, _, ⟨T613, L613, k613, n613⟩, -, X613, ⟨Lc613, hQ613, l613, y613, z613⟩, st613⟩ := X612.interfaceBack hx (xi := (⟨"java/util/List", "size", "()I"⟩ : MethodName)) (y := (⟨"java/util/ArrayList", "size", "()I"⟩ : MethodName)) hown (mvT hZ (own_w hw 85 rfl)) (mvT hZ (own_w hw 86 rfl)) (mvT hZ (own_w hw 87 rfl)) (mvT hZ (own_w hw 88 rfl)) (mvT hZ (own_w hw 89 rfl)) (mvT hZ (own_w hw 90 rfl)) (mvT hZ (own_w hw 91 rfl)) (mvT hZ (own_w hw 92 rfl)) (by decide) (backOf (W := 0) (sz_2 l Z a0 hw [] b561 T599.heap n0 Z599 Q608) hZ (own_w hw 93 rfl) (own_w hw 39 rfl) (by decide) (by decide)) q613a q613b q613c (g := (mkF m 99 #[.val (.int p1), .val (.int p2), .val (.int p3), .val (.int p4), .val (.int (2 : Int32)), .val (.ref rr_449), .val (.ref rr_454), .val (.ref rr_460), .val (.ref b561), .val (.ref b561)] [(.ref b561)])) rfl (by rw [hml]; rfl) (Steps.refl _) (argsL := []) (rest := []) (lenOf pd_17 rfl) rfl (by show 2 * 0 + _ ≤ _; exact Nat.le_of_eq rfl) (hb hby at_99) (fun _ _ => ⟨rfl, e612, (by decide : 21 + 0 ≤ _), (by decide : 135 + 0 ≤ _)⟩)
    dsimp only [Pt.U, Pt.locs, Pt.cells, Pt.slots] at X613 l613 y613 z613 st613 hQ613
    subst l613 y613 z613
    obtain ⟨rfl, Nq613, e613⟩ := hQ613
    have N613 := Fr.app N612 Nq613
    refine own_go (B := T613.setTop (mkF m 104 #[.val (.int p1), .val (.int p2), .val (.int p3), .val (.int p4), .val (.int (2 : Int32)), .val (.ref rr_449), .val (.ref rr_454), .val (.ref rr_460), .val (.ref b561), .val (.ref b561)] [(.int (2 : Int32))])) (fun t k => st613.trans k) ?_
    refine own_go (B := T613.setTop (mkF m 113 #[.val (.int p1), .val (.int p2), .val (.int p3), .val (.int p4), .val (.int (2 : Int32)), .val (.ref rr_449), .val (.ref rr_454), .val (.ref rr_460), .val (.ref b561), .val (.ref b561)] [(.ref b561)])) (fun t k => ?_) ?_
    · refine XS.iload X613.here hx rfl (hb hby at_104) rfl ?_
      refine XS.icmpYes X613.here hx rfl (pc0 := 106) (pc' := 111) rfl (hb hby at_106) rfl (teq (rfl : (2 : Int32) = (2 : Int32))).1 (by decide) (by decide) ?_
      refine XS.aload X613.here hx rfl (hb hby at_111) rfl rfl ?_
      exact k
    obtain ⟨cq615, kq615, q615a, q615b, q615c⟩ := isOf hZ e613 Q607
    obtain ⟨_, _, ⟨T615, L615, k615, n615⟩, -, X615, ⟨Lc615, hQ615, l615, y615, z615⟩, st615⟩ := X613.interfaceBack hx (xi := (⟨"java/util/List", "size", "()I"⟩ : MethodName)) (y := (⟨"java/util/ArrayList", "size", "()I"⟩ : MethodName)) hown (mvT hZ (own_w hw 85 rfl)) (mvT hZ (own_w hw 86 rfl)) (mvT hZ (own_w hw 87 rfl)) (mvT hZ (own_w hw 88 rfl)) (mvT hZ (own_w hw 89 rfl)) (mvT hZ (own_w hw 90 rfl)) (mvT hZ (own_w hw 91 rfl)) (mvT hZ (own_w hw 92 rfl)) (by decide) (backOf (W := 0) (sz_2 l Z a0 hw [] b561 T599.heap n0 Z599 Q608) hZ (own_w hw 93 rfl) (own_w hw 39 rfl) (by decide) (by decide)) q615a q615b q615c (g := (mkF m 113 #[.val (.int p1), .val (.int p2), .val (.int p3), .val (.int p4), .val (.int (2 : Int32)), .val (.ref rr_449), .val (.ref rr_454), .val (.ref rr_460), .val (.ref b561), .val (.ref b561)] [(.ref b561)])) rfl (by rw [hml]; rfl) (Steps.refl _) (argsL := []) (rest := []) (lenOf pd_17 rfl) rfl (by show 2 * 0 + _ ≤ _; exact Nat.le_of_eq rfl) (hb hby at_113) (fun _ _ => ⟨rfl, e613, (by decide : 21 + 0 ≤ _), (by decide : 135 + 0 ≤ _)⟩)
    dsimp only [Pt.U, Pt.locs, Pt.cells, Pt.slots] at X615 l615 y615 z615 st615 hQ615
    subst l615 y615 z615
    obtain ⟨rfl, Nq615, e615⟩ := hQ615
    have N615 := Fr.app N613 Nq615
    refine own_go (B := T615.setTop (mkF m 118 #[.val (.int p1), .val (.int p2), .val (.int p3), .val (.int p4), .val (.int (2 : Int32)), .val (.ref rr_449), .val (.ref rr_454), .val (.ref rr_460), .val (.ref b561), .val (.ref b561)] [(.int (2 : Int32))])) (fun t k => st615.trans k) ?_
    refine own_go (B := T615.setTop (mkF m 136 #[.val (.int p1), .val (.int p2), .val (.int p3), .val (.int p4), .val (.int (2 : Int32)), .val (.ref rr_449), .val (.ref rr_454), .val (.ref rr_460), .val (.ref b561), .val (.ref b561)] [(.int (0 : Int32)), (.ref b561), (.ref rr_449)])) (fun t k => ?_) ?_
    · refine XS.iload X615.here hx rfl (hb hby at_118) rfl ?_
      refine XS.icmpYes X615.here hx rfl (pc0 := 120) (pc' := 125) rfl (hb hby at_120) rfl (teq (rfl : (2 : Int32) = (2 : Int32))).1 (by decide) (by decide) ?_
      refine XS.iload X615.here hx rfl (hb hby at_125) rfl ?_
      refine XS.iconst X615.here hx rfl (hb hby at_127) ?_
      refine XS.icmpNo X615.here hx rfl (hb hby at_128) rfl (flt (by decide : ¬ ((2 : Int32) < (1 : Int32)))).1 ?_
      refine XS.aload X615.here hx rfl (hb hby at_131) rfl rfl ?_
      refine XS.aload X615.here hx rfl (hb hby at_133) rfl rfl ?_
      refine XS.iconst X615.here hx rfl (hb hby at_135) ?_
      exact k
    obtain ⟨cq618, kq618, q618a, q618b, q618c⟩ := isOf hZ e615 Q607
    obtain ⟨_, _, ⟨T618, L618, k618, n618⟩, -, X618, ⟨Lc618, hQ618, l618, y618, z618⟩, st618⟩ := X615.interfaceBack hx (xi := (⟨"java/util/List", "get", "(I)Ljava/lang/Object;"⟩ : MethodName)) (y := (⟨"java/util/ArrayList", "get", "(I)Ljava/lang/Object;"⟩ : MethodName)) hown (mvT hZ (own_w hw 129 rfl)) (mvT hZ (own_w hw 130 rfl)) (mvT hZ (own_w hw 131 rfl)) (mvT hZ (own_w hw 132 rfl)) (mvT hZ (own_w hw 133 rfl)) (mvT hZ (own_w hw 134 rfl)) (mvT hZ (own_w hw 135 rfl)) (mvT hZ (own_w hw 92 rfl)) (by decide) (backOf (W := 1) (get_0_2 l Z a0 hw [] b561 br_579 kb_579 rr_449 rr_454 T599.heap n0 Z599 Q607 Q608 Q609 Q611) hZ (own_w hw 136 rfl) (own_w hw 39 rfl) (by decide) (by decide)) q618a q618b q618c (g := (mkF m 136 #[.val (.int p1), .val (.int p2), .val (.int p3), .val (.int p4), .val (.int (2 : Int32)), .val (.ref rr_449), .val (.ref rr_454), .val (.ref rr_460), .val (.ref b561), .val (.ref b561)] [(.int (0 : Int32)), (.ref b561), (.ref rr_449)])) rfl (by rw [hml]; rfl) (Steps.refl _) (argsL := [(.int (0 : Int32))]) (rest := [(.ref rr_449)]) (lenOf pd_11 rfl) rfl (by show 2 * 0 + _ ≤ _; exact Nat.le_of_eq rfl) (hb hby at_136) (fun _ _ => ⟨rfl, e615, (by decide : 21 + 0 ≤ _), (by decide : 135 + 0 ≤ _)⟩)
    dsimp only [Pt.U, Pt.locs, Pt.cells, Pt.slots] at X618 l618 y618 z618 st618 hQ618
    subst l618 y618 z618
    obtain ⟨rfl, Nq618, e618⟩ := hQ618
    have N618 := Fr.app N615 Nq618
    refine own_go (B := T618.setTop (mkF m 141 #[.val (.int p1), .val (.int p2), .val (.int p3), .val (.int p4), .val (.int (2 : Int32)), .val (.ref rr_449), .val (.ref rr_454), .val (.ref rr_460), .val (.ref b561), .val (.ref b561)] [(.ref rr_449), (.ref rr_449)])) (fun t k => st618.trans k) ?_
    obtain ⟨cq619, kq619, q619a, q619b, q619c⟩ := isOf hZ e618 Q604
    obtain ⟨_, _, ⟨T619, L619, k619, n619⟩, -, X619, ⟨Lc619, hQ619, l619, y619, z619⟩, st619⟩ := X618.virtualBack hx (y := (⟨"java/lang/String", "equals", "(Ljava/lang/Object;)Z"⟩ : MethodName)) (z := (⟨"java/lang/String", "equals", "(Ljava/lang/Object;)Z"⟩ : MethodName)) hown (mvT hZ (own_w hw 150 rfl)) (mvT hZ (own_w hw 151 rfl)) (notFace_of_selects (args := #[]) (mvT hZ (own_w hw 153 rfl))) (mvT hZ (own_w hw 153 rfl)) (mvT hZ (own_w hw 152 rfl)) (by decide) (backOf (W := 0) (eqs l Z a0 hw [] rr_449 rr_449 T599.heap n0 Z599 rfl) hZ (own_w hw 154 rfl) (own_w hw 5 rfl) (by decide) (by decide)) q619a q619c (g := (mkF m 141 #[.val (.int p1), .val (.int p2), .val (.int p3), .val (.int p4), .val (.int (2 : Int32)), .val (.ref rr_449), .val (.ref rr_454), .val (.ref rr_460), .val (.ref b561), .val (.ref b561)] [(.ref rr_449), (.ref rr_449)])) rfl (by rw [hml]; rfl) (Steps.refl _) (argsL := [(.ref rr_449)]) (rest := []) (lenOf pd_18 rfl) rfl (by show 2 * 0 + _ ≤ _; exact Nat.le_of_eq rfl) (hb hby at_141) (fun _ _ => ⟨rfl, e618, (by decide : 21 + 0 ≤ _), (by decide : 135 + 0 ≤ _)⟩)
    dsimp only [Pt.U, Pt.locs, Pt.cells, Pt.slots] at X619 l619 y619 z619 st619 hQ619
    subst l619 y619 z619
    obtain ⟨rfl, Nq619, e619⟩ := hQ619
    have N619 := Fr.app N618 Nq619
    refine own_go (B := T619.setTop (mkF m 144 #[.val (.int p1), .val (.int p2), .val (.int p3), .val (.int p4), .val (.int (2 : Int32)), .val (.ref rr_449), .val (.ref rr_454), .val (.ref rr_460), .val (.ref b561), .val (.ref b561)] [(.int (1 : Int32))])) (fun t k => st619.trans k) ?_
    refine own_go (B := T619.setTop (mkF m 160 #[.val (.int p1), .val (.int p2), .val (.int p3), .val (.int p4), .val (.int (2 : Int32)), .val (.ref rr_449), .val (.ref rr_454), .val (.ref rr_460), .val (.ref b561), .val (.ref b561)] [(.int (1 : Int32)), (.ref b561), (.ref rr_454)])) (fun t k => ?_) ?_
    · refine XS.ifYes X619.here hx rfl (pc0 := 144) (pc' := 149) rfl (hb hby at_144) rfl ((if0 _ _).trans (feq (by decide : ¬ ((1 : Int32) = (0 : Int32)))).2) (by decide) (by decide) ?_
      refine XS.iload X619.here hx rfl (hb hby at_149) rfl ?_
      refine XS.iconst X619.here hx rfl (hb hby at_151) ?_
      refine XS.icmpNo X619.here hx rfl (hb hby at_152) rfl (flt Int32.lt_irrefl).1 ?_
      refine XS.aload X619.here hx rfl (hb hby at_155) rfl rfl ?_
      refine XS.aload X619.here hx rfl (hb hby at_157) rfl rfl ?_
      refine XS.iconst X619.here hx rfl (hb hby at_159) ?_
      exact k
    obtain ⟨cq622, kq622, q622a, q622b, q622c⟩ := isOf hZ e619 Q607
    obtain ⟨_, _, ⟨T622, L622, k622, n622⟩, -, X622, ⟨Lc622, hQ622, l622, y622, z622⟩, st622⟩ := X619.interfaceBack hx (xi := (⟨"java/util/List", "get", "(I)Ljava/lang/Object;"⟩ : MethodName)) (y := (⟨"java/util/ArrayList", "get", "(I)Ljava/lang/Object;"⟩ : MethodName)) hown (mvT hZ (own_w hw 129 rfl)) (mvT hZ (own_w hw 130 rfl)) (mvT hZ (own_w hw 131 rfl)) (mvT hZ (own_w hw 132 rfl)) (mvT hZ (own_w hw 133 rfl)) (mvT hZ (own_w hw 134 rfl)) (mvT hZ (own_w hw 135 rfl)) (mvT hZ (own_w hw 92 rfl)) (by decide) (backOf (W := 1) (get_1_2 l Z a0 hw [] b561 br_579 kb_579 rr_449 rr_454 T599.heap n0 Z599 Q607 Q608 Q609 Q611) hZ (own_w hw 136 rfl) (own_w hw 39 rfl) (by decide) (by decide)) q622a q622b q622c (g := (mkF m 160 #[.val (.int p1), .val (.int p2), .val (.int p3), .val (.int p4), .val (.int (2 : Int32)), .val (.ref rr_449), .val (.ref rr_454), .val (.ref rr_460), .val (.ref b561), .val (.ref b561)] [(.int (1 : Int32)), (.ref b561), (.ref rr_454)])) rfl (by rw [hml]; rfl) (Steps.refl _) (argsL := [(.int (1 : Int32))]) (rest := [(.ref rr_454)]) (lenOf pd_11 rfl) rfl (by show 2 * 0 + _ ≤ _; exact Nat.le_of_eq rfl) (hb hby at_160) (fun _ _ => ⟨rfl, e619, (by decide : 21 + 0 ≤ _), (by decide : 135 + 0 ≤ _)⟩)
    dsimp only [Pt.U, Pt.locs, Pt.cells, Pt.slots] at X622 l622 y622 z622 st622 hQ622
    subst l622 y622 z622
    obtain ⟨rfl, Nq622, e622⟩ := hQ622
    have N622 := Fr.app N619 Nq622
    refine own_go (B := T622.setTop (mkF m 165 #[.val (.int p1), .val (.int p2), .val (.int p3), .val (.int p4), .val (.int (2 : Int32)), .val (.ref rr_449), .val (.ref rr_454), .val (.ref rr_460), .val (.ref b561), .val (.ref b561)] [(.ref rr_454), (.ref rr_454)])) (fun t k => st622.trans k) ?_
    obtain ⟨cq623, kq623, q623a, q623b, q623c⟩ := isOf hZ e622 Q605
    obtain ⟨_, _, ⟨T623, L623, k623, n623⟩, -, X623, ⟨Lc623, hQ623, l623, y623, z623⟩, st623⟩ := X622.virtualBack hx (y := (⟨"java/lang/String", "equals", "(Ljava/lang/Object;)Z"⟩ : MethodName)) (z := (⟨"java/lang/String", "equals", "(Ljava/lang/Object;)Z"⟩ : MethodName)) hown (mvT hZ (own_w hw 150 rfl)) (mvT hZ (own_w hw 151 rfl)) (notFace_of_selects (args := #[]) (mvT hZ (own_w hw 153 rfl))) (mvT hZ (own_w hw 153 rfl)) (mvT hZ (own_w hw 152 rfl)) (by decide) (backOf (W := 0) (eqs l Z a0 hw [] rr_454 rr_454 T599.heap n0 Z599 rfl) hZ (own_w hw 154 rfl) (own_w hw 5 rfl) (by decide) (by decide)) q623a q623c (g := (mkF m 165 #[.val (.int p1), .val (.int p2), .val (.int p3), .val (.int p4), .val (.int (2 : Int32)), .val (.ref rr_449), .val (.ref rr_454), .val (.ref rr_460), .val (.ref b561), .val (.ref b561)] [(.ref rr_454), (.ref rr_454)])) rfl (by rw [hml]; rfl) (Steps.refl _) (argsL := [(.ref rr_454)]) (rest := []) (lenOf pd_18 rfl) rfl (by show 2 * 0 + _ ≤ _; exact Nat.le_of_eq rfl) (hb hby at_165) (fun _ _ => ⟨rfl, e622, (by decide : 21 + 0 ≤ _), (by decide : 135 + 0 ≤ _)⟩)
    dsimp only [Pt.U, Pt.locs, Pt.cells, Pt.slots] at X623 l623 y623 z623 st623 hQ623
    subst l623 y623 z623
    obtain ⟨rfl, Nq623, e623⟩ := hQ623
    have N623 := Fr.app N622 Nq623
    refine own_go (B := T623.setTop (mkF m 168 #[.val (.int p1), .val (.int p2), .val (.int p3), .val (.int p4), .val (.int (2 : Int32)), .val (.ref rr_449), .val (.ref rr_454), .val (.ref rr_460), .val (.ref b561), .val (.ref b561)] [(.int (1 : Int32))])) (fun t k => st623.trans k) ?_
    refine own_go (B := T623.setTop (mkF m 198 #[.val (.int p1), .val (.int p2), .val (.int p3), .val (.int p4), .val (.int (2 : Int32)), .val (.ref rr_449), .val (.ref rr_454), .val (.ref rr_460), .val (.ref b561), .val (.ref b561)] [(.int (1 : Int32))])) (fun t k => ?_) ?_
    · refine XS.ifYes X623.here hx rfl (pc0 := 168) (pc' := 173) rfl (hb hby at_168) rfl ((if0 _ _).trans (feq (by decide : ¬ ((1 : Int32) = (0 : Int32)))).2) (by decide) (by decide) ?_
      refine XS.iload X623.here hx rfl (hb hby at_173) rfl ?_
      refine XS.iconst X623.here hx rfl (hb hby at_175) ?_
      refine XS.icmpYes X623.here hx rfl (pc0 := 176) (pc' := 197) rfl (hb hby at_176) rfl (tlt (by decide : ((2 : Int32) < (3 : Int32)))).1 (by decide) (by decide) ?_
      refine XS.iconst X623.here hx rfl (hb hby at_197) ?_
      exact k
    obtain ⟨fs, hr, hrun, hended, hq⟩ := X623.leaveW hS460 (by rw [e623]; exact hk599) (v := some (.int (1 : Int32))) (fun h => by rw [Bd.returns] at h; cases h)
    refine ⟨_, _, ?_, hrun, hended, _, _, rfl, ?_, hq.1, hq.2.1, hq.2.2.1, hq.2.2.2.mono (by decide) (by decide)⟩
    · show Steps p.tables e below (T623.setTop (mkF m 198 #[.val (.int p1), .val (.int p2), .val (.int p3), .val (.int p4), .val (.int (2 : Int32)), .val (.ref rr_449), .val (.ref rr_454), .val (.ref rr_460), .val (.ref b561), .val (.ref b561)] [(.int (1 : Int32))])) _
      exact retN X623 hx (t := .boolean) Bd.returns (by simp) (hb hby at_198) hr
    · show Qrm0 Z p1 p2 p3 p4 cs de kd oe h0 n0 _ T623.heap _
      rw [e623]
      exact ⟨rfl, N623⟩
  · rw [hk467]
    obtain ⟨T626, h626, X626, e626, E626, A626, D626, -, st626⟩ := newO X460 hx hZ hown (own_w hw 37 rfl) (own_w hw 38 rfl) (own_w hw 39 rfl) rfl (g := (mkF m 23 #[.val (.int p1), .val (.int p2), .val (.int p3), .val (.int p4), .val (.int (3 : Int32)), .val (.ref rr_449), .val (.ref rr_454), .val (.ref rr_460), .unset, .unset] [])) rfl (hb hby at_23) (by decide) (by decide)
    obtain ⟨b626, g626⟩ : ∃ z, z = T460.heap.size := ⟨_, rfl⟩
    rw [← g626] at A626 D626 st626
    have ne626_de : de ≠ b626 := Nat.ne_of_lt (Nat.lt_of_lt_of_le Q463.lt (Nat.le_of_eq g626.symm))
    have ne626_rr_449 : rr_449 ≠ b626 := Nat.ne_of_lt (Nat.lt_of_lt_of_le Q465.lt (Nat.le_of_eq g626.symm))
    have ne626_rr_454 : rr_454 ≠ b626 := Nat.ne_of_lt (Nat.lt_of_lt_of_le Q466.lt (Nat.le_of_eq g626.symm))
    have ne626_rr_460 : rr_460 ≠ b626 := Nat.ne_of_lt (Nat.lt_of_lt_of_le U460_0.lt (Nat.le_of_eq g626.symm))
    have low626 : n0 ≤ b626 := Nat.le_trans Z460 (Nat.le_of_eq g626.symm)
    have hk626 := Nat.le_trans hkq460 E626.1
    have Q627 : Sta Z h626 "java/lang/String" "COMPACT_STRINGS" "Z" (.int cs) := Q461.ext E626
    have Q628 : Sta Z h626 "java/util/ArrayList" "DEFAULTCAPACITY_EMPTY_ELEMENTDATA" "[Ljava/lang/Object;" (.ref de) := Q462.ext E626
    have Q629 : Arv Z h626 de kd (.object "java/lang/Object") (0 : Int32) [] .null := Q463.ext E626
    have Q630 : Sta Z h626 "java/util/Optional" "EMPTY" "Ljava/util/Optional;" (.ref oe) := Q464.ext E626
    have Q631 : Exa Z h626 rr_449 "java/lang/String" := Q465.ext E626
    have Q632 : Exa Z h626 rr_454 "java/lang/String" := Q466.ext E626
    have Q633 : Exa Z h626 rr_460 "java/lang/String" := U460_0.ext E626
    have Z626 : n0 ≤ h626.size := Nat.le_trans Z460 E626.1
    have D626_modCount_AbstractList : Fld Z h626 b626 "java/util/AbstractList" "modCount" "I" (.int (0 : Int32)) := D626 (Or.inl (own_w hw 57 rfl)) (ty := .int) (by decide)
    have D626_elementData_ArrayList : Fld Z h626 b626 "java/util/ArrayList" "elementData" "[Ljava/lang/Object;" .null := D626 (Or.inl (own_w hw 60 rfl)) (ty := (.array (.object "java/lang/Object"))) (by decide)
    have D626_size_ArrayList : Fld Z h626 b626 "java/util/ArrayList" "size" "I" (.int (0 : Int32)) := D626 (Or.inl (own_w hw 95 rfl)) (ty := .int) (by decide)
    refine own_go st626 ?_
    refine own_go (B := T626.setTop (mkF m 27 #[.val (.int p1), .val (.int p2), .val (.int p3), .val (.int p4), .val (.int (3 : Int32)), .val (.ref rr_449), .val (.ref rr_454), .val (.ref rr_460), .unset, .unset] [(.ref b626), (.ref b626)])) (fun t k => ?_) ?_
    · refine XS.dup X626.here hx rfl (hb hby at_26) rfl rfl ?_
      exact k
    obtain ⟨_, _, ⟨T634, L634, k634, n634⟩, -, X634, ⟨Lc634, hQ634, l634, y634, z634⟩, st634⟩ := X626.specialBack hx (y := (⟨"java/util/ArrayList", "<init>", "()V"⟩ : MethodName)) rfl hown (mvT hZ (own_w hw 40 rfl)) (mvT hZ (own_w hw 41 rfl)) (mvT hZ (own_w hw 42 rfl)) (by decide) (backOf (W := 1) (alI l Z a0 hw [] b626 de h626 n0 Z626 A626 D626_modCount_AbstractList D626_elementData_ArrayList D626_size_ArrayList Q628 low626) hZ (own_w hw 42 rfl) (own_w hw 39 rfl) (by decide) (by decide)) (g := (mkF m 27 #[.val (.int p1), .val (.int p2), .val (.int p3), .val (.int p4), .val (.int (3 : Int32)), .val (.ref rr_449), .val (.ref rr_454), .val (.ref rr_460), .unset, .unset] [(.ref b626), (.ref b626)])) rfl (by rw [hml]; rfl) (Steps.refl _) (a := b626) (argsL := []) (rest := [(.ref b626)]) (lenOf pd_5 rfl) rfl (by show 2 * 0 + _ ≤ _; exact Nat.le_of_eq rfl) (hb hby at_27) (fun _ _ => ⟨rfl, e626, (by decide : 19 + 0 ≤ _), (by decide : 123 + 0 ≤ _)⟩)
    dsimp only [Pt.U, Pt.locs, Pt.cells, Pt.slots] at X634 l634 y634 z634 st634 hQ634
    subst l634 y634 z634
    obtain ⟨rfl, Nq634, Kq634, U634_0, U634_1, U634_2⟩ := hQ634
    have hk634 := Nat.le_trans hk626 Kq634.1
    have Q635 : Sta Z T634.heap "java/lang/String" "COMPACT_STRINGS" "Z" (.int cs) := own_staK Q627 Kq634 (nsS (own_nsE A626) ns0)
    have Q636 : Sta Z T634.heap "java/util/ArrayList" "DEFAULTCAPACITY_EMPTY_ELEMENTDATA" "[Ljava/lang/Object;" (.ref de) := own_staK Q628 Kq634 (nsS (own_nsE A626) ns0)
    have Q637 : Arv Z T634.heap de kd (.object "java/lang/Object") (0 : Int32) [] .null := Q629.keep Kq634 (ninS ne626_de nin0)
    have Q638 : Sta Z T634.heap "java/util/Optional" "EMPTY" "Ljava/util/Optional;" (.ref oe) := own_staK Q630 Kq634 (nsS (own_nsE A626) ns0)
    have Q639 : Exa Z T634.heap rr_449 "java/lang/String" := Q631.keep Kq634
    have Q640 : Exa Z T634.heap rr_454 "java/lang/String" := Q632.keep Kq634
    have Q641 : Exa Z T634.heap rr_460 "java/lang/String" := Q633.keep Kq634
    have Q642 : Exa Z T634.heap b626 "java/util/ArrayList" := A626.keep Kq634
    have Z634 : n0 ≤ T634.heap.size := Nat.le_trans Z626 Kq634.1
    have N634 := Fr.app N460 Nq634
    refine own_go (B := T634.setTop (mkF m 30 #[.val (.int p1), .val (.int p2), .val (.int p3), .val (.int p4), .val (.int (3 : Int32)), .val (.ref rr_449), .val (.ref rr_454), .val (.ref rr_460), .unset, .unset] [(.ref b626)])) (fun t k => st634.trans k) ?_
    refine own_go (B := T634.setTop (mkF m 42 #[.val (.int p1), .val (.int p2), .val (.int p3), .val (.int p4), .val (.int (3 : Int32)), .val (.ref rr_449), .val (.ref rr_454), .val (.ref rr_460), .val (.ref b626), .unset] [(.ref rr_449), (.ref b626)])) (fun t k => ?_) ?_
    · refine XS.astore X634.here hx rfl (hb hby at_30) rfl rfl (l' := #[.val (.int p1), .val (.int p2), .val (.int p3), .val (.int p4), .val (.int (3 : Int32)), .val (.ref rr_449), .val (.ref rr_454), .val (.ref rr_460), .val (.ref b626), .unset]) rfl ?_
      refine XS.iload X634.here hx rfl (hb hby at_32) rfl ?_
      refine XS.iconst X634.here hx rfl (hb hby at_34) ?_
      refine XS.icmpNo X634.here hx rfl (hb hby at_35) rfl (flt (by decide : ¬ ((3 : Int32) < (1 : Int32)))).1 ?_
      refine XS.aload X634.here hx rfl (hb hby at_38) rfl rfl ?_
      refine XS.aload X634.here hx rfl (hb hby at_40) rfl rfl ?_
      exact k
    obtain ⟨cq644, kq644, q644a, q644b, q644c⟩ := isOf hZ rfl Q642
    obtain ⟨_, _, ⟨T644, L644, k644, n644⟩, -, X644, ⟨Lc644, hQ644, l644, y644, z644⟩, st644⟩ := X634.interfaceBack hx (xi := (⟨"java/util/List", "add", "(Ljava/lang/Object;)Z"⟩ : MethodName)) (y := (⟨"java/util/ArrayList", "add", "(Ljava/lang/Object;)Z"⟩ : MethodName)) hown (mvT hZ (own_w hw 97 rfl)) (mvT hZ (own_w hw 98 rfl)) (mvT hZ (own_w hw 99 rfl)) (mvT hZ (own_w hw 100 rfl)) (mvT hZ (own_w hw 101 rfl)) (mvT hZ (own_w hw 102 rfl)) (mvT hZ (own_w hw 103 rfl)) (mvT hZ (own_w hw 92 rfl)) (by decide) (backOf (W := 0) (ad1_0 l Z a0 hw [] b626 rr_449 de kd (0 : Int32) T634.heap n0 Z634 Q642 Q639 U634_2 U634_1 U634_0 Q636 Q637 low626 ne626_de) hZ (own_w hw 104 rfl) (own_w hw 39 rfl) (by decide) (by decide)) q644a q644b q644c (g := (mkF m 42 #[.val (.int p1), .val (.int p2), .val (.int p3), .val (.int p4), .val (.int (3 : Int32)), .val (.ref rr_449), .val (.ref rr_454), .val (.ref rr_460), .val (.ref b626), .unset] [(.ref rr_449), (.ref b626)])) rfl (by rw [hml]; rfl) (Steps.refl _) (argsL := [(.ref rr_449)]) (rest := []) (lenOf pd_18 rfl) rfl (by show 2 * 0 + _ ≤ _; exact Nat.le_of_eq rfl) (hb hby at_42) (fun _ _ => ⟨rfl, rfl, (by decide : 19 + 1 ≤ _), (by decide : 123 + 10 ≤ _)⟩)
    dsimp only [Pt.U, Pt.locs, Pt.cells, Pt.slots] at X644 l644 y644 z644 st644 hQ644
    subst l644 y644 z644
    obtain ⟨br_644, kb_644, rfl, Nq644, Kq644, sq_br_644, pq644_0, U644_0, U644_1, U644_2, U644_3, Pq644_0⟩ := hQ644
    have ne_b626_br_644 : b626 ≠ br_644 := Nat.ne_of_lt (Nat.lt_of_lt_of_le Q642.lt sq_br_644)
    have ne_de_br_644 : de ≠ br_644 := Nat.ne_of_lt (Nat.lt_of_lt_of_le Q637.lt sq_br_644)
    have ne_rr_449_br_644 : rr_449 ≠ br_644 := Nat.ne_of_lt (Nat.lt_of_lt_of_le Q639.lt sq_br_644)
    have ne_rr_454_br_644 : rr_454 ≠ br_644 := Nat.ne_of_lt (Nat.lt_of_lt_of_le Q640.lt sq_br_644)
    have ne_rr_460_br_644 : rr_460 ≠ br_644 := Nat.ne_of_lt (Nat.lt_of_lt_of_le Q641.lt sq_br_644)
    have low_br_644 : n0 ≤ br_644 := Nat.le_trans Z634 sq_br_644
    have hk644 := Nat.le_trans hk634 Kq644.1
    have Q645 : Sta Z T644.heap "java/lang/String" "COMPACT_STRINGS" "Z" (.int cs) := own_staK Q635 Kq644 (nsS (own_nsE Q642) ns0)
    have Q646 : Sta Z T644.heap "java/util/ArrayList" "DEFAULTCAPACITY_EMPTY_ELEMENTDATA" "[Ljava/lang/Object;" (.ref de) := own_staK Q636 Kq644 (nsS (own_nsE Q642) ns0)
    have Q647 : Arv Z T644.heap de kd (.object "java/lang/Object") (0 : Int32) [] .null := Q637.keep Kq644 (ninS ne626_de nin0)
    have Q648 : Sta Z T644.heap "java/util/Optional" "EMPTY" "Ljava/util/Optional;" (.ref oe) := own_staK Q638 Kq644 (nsS (own_nsE Q642) ns0)
    have Q649 : Exa Z T644.heap rr_449 "java/lang/String" := Q639.keep Kq644
    have Q650 : Exa Z T644.heap rr_454 "java/lang/String" := Q640.keep Kq644
    have Q651 : Exa Z T644.heap rr_460 "java/lang/String" := Q641.keep Kq644
    have Q652 : Exa Z T644.heap b626 "java/util/ArrayList" := Q642.keep Kq644
    have Z644 : n0 ≤ T644.heap.size := Nat.le_trans Z634 Kq644.1
    have N644 := Fr.app N634 Nq644
    refine own_go (B := T644.setTop (mkF m 47 #[.val (.int p1), .val (.int p2), .val (.int p3), .val (.int p4), .val (.int (3 : Int32)), .val (.ref rr_449), .val (.ref rr_454), .val (.ref rr_460), .val (.ref b626), .unset] [(.int (1 : Int32))])) (fun t k => st644.trans k) ?_
    refine own_go (B := T644.setTop (mkF m 58 #[.val (.int p1), .val (.int p2), .val (.int p3), .val (.int p4), .val (.int (3 : Int32)), .val (.ref rr_449), .val (.ref rr_454), .val (.ref rr_460), .val (.ref b626), .unset] [(.ref rr_454), (.ref b626)])) (fun t k => ?_) ?_
    · refine XS.pop X644.here hx rfl (hb hby at_47) rfl rfl ?_
      refine XS.iload X644.here hx rfl (hb hby at_48) rfl ?_
      refine XS.iconst X644.here hx rfl (hb hby at_50) ?_
      refine XS.icmpNo X644.here hx rfl (hb hby at_51) rfl (flt (by decide : ¬ ((3 : Int32) < (2 : Int32)))).1 ?_
      refine XS.aload X644.here hx rfl (hb hby at_54) rfl rfl ?_
      refine XS.aload X644.here hx rfl (hb hby at_56) rfl rfl ?_
      exact k
    obtain ⟨cq654, kq654, q654a, q654b, q654c⟩ := isOf hZ rfl Q652
    obtain ⟨_, _, ⟨T654, L654, k654, n654⟩, -, X654, ⟨Lc654, hQ654, l654, y654, z654⟩, st654⟩ := X644.interfaceBack hx (xi := (⟨"java/util/List", "add", "(Ljava/lang/Object;)Z"⟩ : MethodName)) (y := (⟨"java/util/ArrayList", "add", "(Ljava/lang/Object;)Z"⟩ : MethodName)) hown (mvT hZ (own_w hw 97 rfl)) (mvT hZ (own_w hw 98 rfl)) (mvT hZ (own_w hw 99 rfl)) (mvT hZ (own_w hw 100 rfl)) (mvT hZ (own_w hw 101 rfl)) (mvT hZ (own_w hw 102 rfl)) (mvT hZ (own_w hw 103 rfl)) (mvT hZ (own_w hw 92 rfl)) (by decide) (backOf (W := 0) (ad1_1 l Z a0 hw [] b626 rr_454 br_644 kb_644 ((0 : Int32) + (1 : Int32)) rr_449 T644.heap n0 Z644 Q652 Q650 U644_0 U644_1 U644_2 U644_3 low626 low_br_644 ne_b626_br_644 Pq644_0) hZ (own_w hw 104 rfl) (own_w hw 39 rfl) (by decide) (by decide)) q654a q654b q654c (g := (mkF m 58 #[.val (.int p1), .val (.int p2), .val (.int p3), .val (.int p4), .val (.int (3 : Int32)), .val (.ref rr_449), .val (.ref rr_454), .val (.ref rr_460), .val (.ref b626), .unset] [(.ref rr_454), (.ref b626)])) rfl (by rw [hml]; rfl) (Steps.refl _) (argsL := [(.ref rr_454)]) (rest := []) (lenOf pd_18 rfl) rfl (by show 2 * 0 + _ ≤ _; exact Nat.le_of_eq rfl) (hb hby at_58) (fun _ _ => ⟨rfl, rfl, (by decide : 20 + 0 ≤ _), (by decide : 133 + 0 ≤ _)⟩)
    dsimp only [Pt.U, Pt.locs, Pt.cells, Pt.slots] at X654 l654 y654 z654 st654 hQ654
    subst l654 y654 z654
    obtain ⟨rfl, Nq654, Kq654, U654_0, U654_1, U654_2, U654_3⟩ := hQ654
    have hk654 := Nat.le_trans hk644 Kq654.1
    have Q655 : Sta Z T654.heap "java/lang/String" "COMPACT_STRINGS" "Z" (.int cs) := own_staK Q645 Kq654 (nsS (own_nsE Q652) (nsS (own_nsV U644_3) ns0))
    have Q656 : Sta Z T654.heap "java/util/ArrayList" "DEFAULTCAPACITY_EMPTY_ELEMENTDATA" "[Ljava/lang/Object;" (.ref de) := own_staK Q646 Kq654 (nsS (own_nsE Q652) (nsS (own_nsV U644_3) ns0))
    have Q657 : Arv Z T654.heap de kd (.object "java/lang/Object") (0 : Int32) [] .null := Q647.keep Kq654 (ninS ne626_de (ninS ne_de_br_644 nin0))
    have Q658 : Sta Z T654.heap "java/util/Optional" "EMPTY" "Ljava/util/Optional;" (.ref oe) := own_staK Q648 Kq654 (nsS (own_nsE Q652) (nsS (own_nsV U644_3) ns0))
    have Q659 : Exa Z T654.heap rr_449 "java/lang/String" := Q649.keep Kq654
    have Q660 : Exa Z T654.heap rr_454 "java/lang/String" := Q650.keep Kq654
    have Q661 : Exa Z T654.heap rr_460 "java/lang/String" := Q651.keep Kq654
    have Q662 : Exa Z T654.heap b626 "java/util/ArrayList" := Q652.keep Kq654
    have Z654 : n0 ≤ T654.heap.size := Nat.le_trans Z644 Kq654.1
    have N654 := Fr.app N644 Nq654
    refine own_go (B := T654.setTop (mkF m 63 #[.val (.int p1), .val (.int p2), .val (.int p3), .val (.int p4), .val (.int (3 : Int32)), .val (.ref rr_449), .val (.ref rr_454), .val (.ref rr_460), .val (.ref b626), .unset] [(.int (1 : Int32))])) (fun t k => st654.trans k) ?_
    refine own_go (B := T654.setTop (mkF m 74 #[.val (.int p1), .val (.int p2), .val (.int p3), .val (.int p4), .val (.int (3 : Int32)), .val (.ref rr_449), .val (.ref rr_454), .val (.ref rr_460), .val (.ref b626), .unset] [(.ref rr_460), (.ref b626)])) (fun t k => ?_) ?_
    · refine XS.pop X654.here hx rfl (hb hby at_63) rfl rfl ?_
      refine XS.iload X654.here hx rfl (hb hby at_64) rfl ?_
      refine XS.iconst X654.here hx rfl (hb hby at_66) ?_
      refine XS.icmpNo X654.here hx rfl (hb hby at_67) rfl (flt Int32.lt_irrefl).1 ?_
      refine XS.aload X654.here hx rfl (hb hby at_70) rfl rfl ?_
      refine XS.aload X654.here hx rfl (hb hby at_72) rfl rfl ?_
      exact k
    obtain ⟨cq664, kq664, q664a, q664b, q664c⟩ := isOf hZ rfl Q662
    obtain ⟨_, _, ⟨T664, L664, k664, n664⟩, -, X664, ⟨Lc664, hQ664, l664, y664, z664⟩, st664⟩ := X654.interfaceBack hx (xi := (⟨"java/util/List", "add", "(Ljava/lang/Object;)Z"⟩ : MethodName)) (y := (⟨"java/util/ArrayList", "add", "(Ljava/lang/Object;)Z"⟩ : MethodName)) hown (mvT hZ (own_w hw 97 rfl)) (mvT hZ (own_w hw 98 rfl)) (mvT hZ (own_w hw 99 rfl)) (mvT hZ (own_w hw 100 rfl)) (mvT hZ (own_w hw 101 rfl)) (mvT hZ (own_w hw 102 rfl)) (mvT hZ (own_w hw 103 rfl)) (mvT hZ (own_w hw 92 rfl)) (by decide) (backOf (W := 0) (ad1_2 l Z a0 hw [] b626 rr_460 br_644 kb_644 (((0 : Int32) + (1 : Int32)) + (1 : Int32)) rr_449 rr_454 T654.heap n0 Z654 Q662 Q661 U654_0 U654_1 U654_2 U654_3 low626 low_br_644 ne_b626_br_644 Pq644_0) hZ (own_w hw 104 rfl) (own_w hw 39 rfl) (by decide) (by decide)) q664a q664b q664c (g := (mkF m 74 #[.val (.int p1), .val (.int p2), .val (.int p3), .val (.int p4), .val (.int (3 : Int32)), .val (.ref rr_449), .val (.ref rr_454), .val (.ref rr_460), .val (.ref b626), .unset] [(.ref rr_460), (.ref b626)])) rfl (by rw [hml]; rfl) (Steps.refl _) (argsL := [(.ref rr_460)]) (rest := []) (lenOf pd_18 rfl) rfl (by show 2 * 0 + _ ≤ _; exact Nat.le_of_eq rfl) (hb hby at_74) (fun _ _ => ⟨rfl, rfl, (by decide : 20 + 0 ≤ _), (by decide : 133 + 0 ≤ _)⟩)
    dsimp only [Pt.U, Pt.locs, Pt.cells, Pt.slots] at X664 l664 y664 z664 st664 hQ664
    subst l664 y664 z664
    obtain ⟨rfl, Nq664, Kq664, U664_0, U664_1, U664_2, U664_3⟩ := hQ664
    have hk664 := Nat.le_trans hk654 Kq664.1
    have Q665 : Sta Z T664.heap "java/lang/String" "COMPACT_STRINGS" "Z" (.int cs) := own_staK Q655 Kq664 (nsS (own_nsE Q662) (nsS (own_nsV U654_3) ns0))
    have Q666 : Sta Z T664.heap "java/util/ArrayList" "DEFAULTCAPACITY_EMPTY_ELEMENTDATA" "[Ljava/lang/Object;" (.ref de) := own_staK Q656 Kq664 (nsS (own_nsE Q662) (nsS (own_nsV U654_3) ns0))
    have Q667 : Arv Z T664.heap de kd (.object "java/lang/Object") (0 : Int32) [] .null := Q657.keep Kq664 (ninS ne626_de (ninS ne_de_br_644 nin0))
    have Q668 : Sta Z T664.heap "java/util/Optional" "EMPTY" "Ljava/util/Optional;" (.ref oe) := own_staK Q658 Kq664 (nsS (own_nsE Q662) (nsS (own_nsV U654_3) ns0))
    have Q669 : Exa Z T664.heap rr_449 "java/lang/String" := Q659.keep Kq664
    have Q670 : Exa Z T664.heap rr_454 "java/lang/String" := Q660.keep Kq664
    have Q671 : Exa Z T664.heap rr_460 "java/lang/String" := Q661.keep Kq664
    have Q672 : Exa Z T664.heap b626 "java/util/ArrayList" := Q662.keep Kq664
    have Z664 : n0 ≤ T664.heap.size := Nat.le_trans Z654 Kq664.1
    have N664 := Fr.app N654 Nq664
    refine own_go (B := T664.setTop (mkF m 79 #[.val (.int p1), .val (.int p2), .val (.int p3), .val (.int p4), .val (.int (3 : Int32)), .val (.ref rr_449), .val (.ref rr_454), .val (.ref rr_460), .val (.ref b626), .unset] [(.int (1 : Int32))])) (fun t k => st664.trans k) ?_
    refine own_go (B := T664.setTop (mkF m 82 #[.val (.int p1), .val (.int p2), .val (.int p3), .val (.int p4), .val (.int (3 : Int32)), .val (.ref rr_449), .val (.ref rr_454), .val (.ref rr_460), .val (.ref b626), .unset] [(.ref b626)])) (fun t k => ?_) ?_
    · refine XS.pop X664.here hx rfl (hb hby at_79) rfl rfl ?_
      refine XS.aload X664.here hx rfl (hb hby at_80) rfl rfl ?_
      exact k
    obtain ⟨_, _, ⟨T673, L673, k673, n673⟩, -, X673, ⟨Lc673, hQ673, l673, y673, z673⟩, st673⟩ := Jvm.LawKit.callS X664 hx (y := (⟨"com/example/axiomwright/axiomwright/cli/Timings", "none", "(Ljava/util/List;)Lcom/example/axiomwright/axiomwright/cli/Timings;"⟩ : MethodName)) hown (mvT hZ (own_w hw 61 rfl)) (mvT hZ (own_w hw 62 rfl)) (mvT hZ (own_w hw 63 rfl)) (mvT hZ (own_w hw 64 rfl)) (by decide) (backOf (W := 0) (non l Z a0 hw [] b626 oe T664.heap n0 Z664 Q668) hZ (own_w hw 64 rfl) (own_w hw 63 rfl) (by decide) (by decide)) (g := (mkF m 82 #[.val (.int p1), .val (.int p2), .val (.int p3), .val (.int p4), .val (.int (3 : Int32)), .val (.ref rr_449), .val (.ref rr_454), .val (.ref rr_460), .val (.ref b626), .unset] [(.ref b626)])) rfl (by rw [hml]; rfl) (argsL := [(.ref b626)]) (rest := []) (lenOf pd_15 rfl) rfl (by show 2 * 0 + _ ≤ _; exact Nat.le_of_eq rfl) (hb hby at_82) (fun _ _ => ⟨rfl, rfl, (by decide : 20 + 1 ≤ _), (by decide : 133 + 2 ≤ _)⟩)
    dsimp only [Pt.U, Pt.locs, Pt.cells, Pt.slots] at X673 l673 y673 z673 st673 hQ673
    subst l673 y673 z673
    obtain ⟨tt_673, rfl, Nq673, Kq673, sq_tt_673, U673_0, U673_1⟩ := hQ673
    have ne_b626_tt_673 : b626 ≠ tt_673 := Nat.ne_of_lt (Nat.lt_of_lt_of_le Q672.lt sq_tt_673)
    have ne_br_644_tt_673 : br_644 ≠ tt_673 := Nat.ne_of_lt (Nat.lt_of_lt_of_le U664_3.lt sq_tt_673)
    have ne_de_tt_673 : de ≠ tt_673 := Nat.ne_of_lt (Nat.lt_of_lt_of_le Q667.lt sq_tt_673)
    have ne_rr_449_tt_673 : rr_449 ≠ tt_673 := Nat.ne_of_lt (Nat.lt_of_lt_of_le Q669.lt sq_tt_673)
    have ne_rr_454_tt_673 : rr_454 ≠ tt_673 := Nat.ne_of_lt (Nat.lt_of_lt_of_le Q670.lt sq_tt_673)
    have ne_rr_460_tt_673 : rr_460 ≠ tt_673 := Nat.ne_of_lt (Nat.lt_of_lt_of_le Q671.lt sq_tt_673)
    have low_tt_673 : n0 ≤ tt_673 := Nat.le_trans Z664 sq_tt_673
    have hk673 := Nat.le_trans hk664 Kq673.1
    have Q674 : Sta Z T673.heap "java/lang/String" "COMPACT_STRINGS" "Z" (.int cs) := Q665.ext (own_extK Kq673)
    have Q675 : Sta Z T673.heap "java/util/ArrayList" "DEFAULTCAPACITY_EMPTY_ELEMENTDATA" "[Ljava/lang/Object;" (.ref de) := Q666.ext (own_extK Kq673)
    have Q676 : Arv Z T673.heap de kd (.object "java/lang/Object") (0 : Int32) [] .null := Q667.ext (own_extK Kq673)
    have Q677 : Sta Z T673.heap "java/util/Optional" "EMPTY" "Ljava/util/Optional;" (.ref oe) := Q668.ext (own_extK Kq673)
    have Q678 : Exa Z T673.heap rr_449 "java/lang/String" := Q669.ext (own_extK Kq673)
    have Q679 : Exa Z T673.heap rr_454 "java/lang/String" := Q670.ext (own_extK Kq673)
    have Q680 : Exa Z T673.heap rr_460 "java/lang/String" := Q671.ext (own_extK Kq673)
    have Q681 : Exa Z T673.heap b626 "java/util/ArrayList" := Q672.ext (own_extK Kq673)
    have Q682 : Fld Z T673.heap b626 "java/util/ArrayList" "size" "I" (.int (3 : Int32)) := U664_0.ext (own_extK Kq673)
    have Q683 : Fld Z T673.heap b626 "java/util/ArrayList" "elementData" "[Ljava/lang/Object;" (.ref br_644) := U664_1.ext (own_extK Kq673)
    have Q684 : Fld Z T673.heap b626 "java/util/AbstractList" "modCount" "I" (.int ((((0 : Int32) + (1 : Int32)) + (1 : Int32)) + (1 : Int32))) := U664_2.ext (own_extK Kq673)
    have Q685 : Arv Z T673.heap br_644 kb_644 (.object "java/lang/Object") (10 : Int32) [(.ref rr_449), (.ref rr_454), (.ref rr_460), .null, .null, .null, .null, .null, .null, .null] .null := U664_3.ext (own_extK Kq673)
    have Z673 : n0 ≤ T673.heap.size := Nat.le_trans Z664 Kq673.1
    have N673 := Fr.app N664 Nq673
    refine own_go (B := T673.setTop (mkF m 85 #[.val (.int p1), .val (.int p2), .val (.int p3), .val (.int p4), .val (.int (3 : Int32)), .val (.ref rr_449), .val (.ref rr_454), .val (.ref rr_460), .val (.ref b626), .unset] [(.ref tt_673)])) st673 ?_
    obtain ⟨cq686, kq686, q686a, q686b, q686c⟩ := isOf hZ rfl U673_0
    obtain ⟨_, _, ⟨T686, L686, k686, n686⟩, -, X686, ⟨Lc686, hQ686, l686, y686, z686⟩, st686⟩ := X673.virtualBack hx (y := (⟨"com/example/axiomwright/axiomwright/cli/Timings", "arguments", "()Ljava/util/List;"⟩ : MethodName)) (z := (⟨"com/example/axiomwright/axiomwright/cli/Timings", "arguments", "()Ljava/util/List;"⟩ : MethodName)) hown (mvT hZ (own_w hw 80 rfl)) (mvT hZ (own_w hw 81 rfl)) (notFace_of_selects (args := #[]) (mvT hZ (own_w hw 83 rfl))) (mvT hZ (own_w hw 83 rfl)) (mvT hZ (own_w hw 82 rfl)) (by decide) (backOf (W := 0) (arg l Z a0 hw [] tt_673 b626 T673.heap n0 Z673 U673_0 U673_1) hZ (own_w hw 84 rfl) (own_w hw 63 rfl) (by decide) (by decide)) q686a q686c (g := (mkF m 85 #[.val (.int p1), .val (.int p2), .val (.int p3), .val (.int p4), .val (.int (3 : Int32)), .val (.ref rr_449), .val (.ref rr_454), .val (.ref rr_460), .val (.ref b626), .unset] [(.ref tt_673)])) rfl (by rw [hml]; rfl) (Steps.refl _) (argsL := []) (rest := []) (lenOf pd_16 rfl) rfl (by show 2 * 0 + _ ≤ _; exact Nat.le_of_eq rfl) (hb hby at_85) (fun _ _ => ⟨rfl, rfl, (by decide : 21 + 0 ≤ _), (by decide : 135 + 0 ≤ _)⟩)
    dsimp only [Pt.U, Pt.locs, Pt.cells, Pt.slots] at X686 l686 y686 z686 st686 hQ686
    subst l686 y686 z686
    obtain ⟨rfl, Nq686, e686⟩ := hQ686
    have N686 := Fr.app N673 Nq686
    refine own_go (B := T686.setTop (mkF m 88 #[.val (.int p1), .val (.int p2), .val (.int p3), .val (.int p4), .val (.int (3 : Int32)), .val (.ref rr_449), .val (.ref rr_454), .val (.ref rr_460), .val (.ref b626), .unset] [(.ref b626)])) (fun t k => st686.trans k) ?_
    refine own_go (B := T686.setTop (mkF m 99 #[.val (.int p1), .val (.int p2), .val (.int p3), .val (.int p4), .val (.int (3 : Int32)), .val (.ref rr_449), .val (.ref rr_454), .val (.ref rr_460), .val (.ref b626), .val (.ref b626)] [(.ref b626)])) (fun t k => ?_) ?_
    · refine XS.astore X686.here hx rfl (hb hby at_88) rfl rfl (l' := #[.val (.int p1), .val (.int p2), .val (.int p3), .val (.int p4), .val (.int (3 : Int32)), .val (.ref rr_449), .val (.ref rr_454), .val (.ref rr_460), .val (.ref b626), .val (.ref b626)]) rfl ?_
      refine XS.aload X686.here hx rfl (hb hby at_90) rfl rfl ?_
      refine XS.ifnonnullYes X686.here hx rfl (pc0 := 92) (pc' := 97) rfl (hb hby at_92) rfl (by decide) (by decide) ?_
      refine XS.aload X686.here hx rfl (hb hby at_97) rfl rfl ?_
      exact k
    obtain ⟨cq687, kq687, q687a, q687b, q687c⟩ := isOf hZ e686 Q681
    obtain ⟨_, _, ⟨T687, L687, k687, n687⟩, -, X687, ⟨Lc687, hQ687, l687, y687, z687⟩, st687⟩ := X686.interfaceBack hx (xi := (⟨"java/util/List", "size", "()I"⟩ : MethodName)) (y := (⟨"java/util/ArrayList", "size", "()I"⟩ : MethodName)) hown (mvT hZ (own_w hw 85 rfl)) (mvT hZ (own_w hw 86 rfl)) (mvT hZ (own_w hw 87 rfl)) (mvT hZ (own_w hw 88 rfl)) (mvT hZ (own_w hw 89 rfl)) (mvT hZ (own_w hw 90 rfl)) (mvT hZ (own_w hw 91 rfl)) (mvT hZ (own_w hw 92 rfl)) (by decide) (backOf (W := 0) (sz_3 l Z a0 hw [] b626 T673.heap n0 Z673 Q682) hZ (own_w hw 93 rfl) (own_w hw 39 rfl) (by decide) (by decide)) q687a q687b q687c (g := (mkF m 99 #[.val (.int p1), .val (.int p2), .val (.int p3), .val (.int p4), .val (.int (3 : Int32)), .val (.ref rr_449), .val (.ref rr_454), .val (.ref rr_460), .val (.ref b626), .val (.ref b626)] [(.ref b626)])) rfl (by rw [hml]; rfl) (Steps.refl _) (argsL := []) (rest := []) (lenOf pd_17 rfl) rfl (by show 2 * 0 + _ ≤ _; exact Nat.le_of_eq rfl) (hb hby at_99) (fun _ _ => ⟨rfl, e686, (by decide : 21 + 0 ≤ _), (by decide : 135 + 0 ≤ _)⟩)
    dsimp only [Pt.U, Pt.locs, Pt.cells, Pt.slots] at X687 l687 y687 z687 st687 hQ687
    subst l687 y687 z687
    obtain ⟨rfl, Nq687, e687⟩ := hQ687
    have N687 := Fr.app N686 Nq687
    refine own_go (B := T687.setTop (mkF m 104 #[.val (.int p1), .val (.int p2), .val (.int p3), .val (.int p4), .val (.int (3 : Int32)), .val (.ref rr_449), .val (.ref rr_454), .val (.ref rr_460), .val (.ref b626), .val (.ref b626)] [(.int (3 : Int32))])) (fun t k => st687.trans k) ?_
    refine own_go (B := T687.setTop (mkF m 113 #[.val (.int p1), .val (.int p2), .val (.int p3), .val (.int p4), .val (.int (3 : Int32)), .val (.ref rr_449), .val (.ref rr_454), .val (.ref rr_460), .val (.ref b626), .val (.ref b626)] [(.ref b626)])) (fun t k => ?_) ?_
    · refine XS.iload X687.here hx rfl (hb hby at_104) rfl ?_
      refine XS.icmpYes X687.here hx rfl (pc0 := 106) (pc' := 111) rfl (hb hby at_106) rfl (teq (rfl : (3 : Int32) = (3 : Int32))).1 (by decide) (by decide) ?_
      refine XS.aload X687.here hx rfl (hb hby at_111) rfl rfl ?_
      exact k
    obtain ⟨cq689, kq689, q689a, q689b, q689c⟩ := isOf hZ e687 Q681
    obtain ⟨_, _, ⟨T689, L689, k689, n689⟩, -, X689, ⟨Lc689, hQ689, l689, y689, z689⟩, st689⟩ := X687.interfaceBack hx (xi := (⟨"java/util/List", "size", "()I"⟩ : MethodName)) (y := (⟨"java/util/ArrayList", "size", "()I"⟩ : MethodName)) hown (mvT hZ (own_w hw 85 rfl)) (mvT hZ (own_w hw 86 rfl)) (mvT hZ (own_w hw 87 rfl)) (mvT hZ (own_w hw 88 rfl)) (mvT hZ (own_w hw 89 rfl)) (mvT hZ (own_w hw 90 rfl)) (mvT hZ (own_w hw 91 rfl)) (mvT hZ (own_w hw 92 rfl)) (by decide) (backOf (W := 0) (sz_3 l Z a0 hw [] b626 T673.heap n0 Z673 Q682) hZ (own_w hw 93 rfl) (own_w hw 39 rfl) (by decide) (by decide)) q689a q689b q689c (g := (mkF m 113 #[.val (.int p1), .val (.int p2), .val (.int p3), .val (.int p4), .val (.int (3 : Int32)), .val (.ref rr_449), .val (.ref rr_454), .val (.ref rr_460), .val (.ref b626), .val (.ref b626)] [(.ref b626)])) rfl (by rw [hml]; rfl) (Steps.refl _) (argsL := []) (rest := []) (lenOf pd_17 rfl) rfl (by show 2 * 0 + _ ≤ _; exact Nat.le_of_eq rfl) (hb hby at_113) (fun _ _ => ⟨rfl, e687, (by decide : 21 + 0 ≤ _), (by decide : 135 + 0 ≤ _)⟩)
    dsimp only [Pt.U, Pt.locs, Pt.cells, Pt.slots] at X689 l689 y689 z689 st689 hQ689
    subst l689 y689 z689
    obtain ⟨rfl, Nq689, e689⟩ := hQ689
    have N689 := Fr.app N687 Nq689
    refine own_go (B := T689.setTop (mkF m 118 #[.val (.int p1), .val (.int p2), .val (.int p3), .val (.int p4), .val (.int (3 : Int32)), .val (.ref rr_449), .val (.ref rr_454), .val (.ref rr_460), .val (.ref b626), .val (.ref b626)] [(.int (3 : Int32))])) (fun t k => st689.trans k) ?_
    refine own_go (B := T689.setTop (mkF m 136 #[.val (.int p1), .val (.int p2), .val (.int p3), .val (.int p4), .val (.int (3 : Int32)), .val (.ref rr_449), .val (.ref rr_454), .val (.ref rr_460), .val (.ref b626), .val (.ref b626)] [(.int (0 : Int32)), (.ref b626), (.ref rr_449)])) (fun t k => ?_) ?_
    · refine XS.iload X689.here hx rfl (hb hby at_118) rfl ?_
      refine XS.icmpYes X689.here hx rfl (pc0 := 120) (pc' := 125) rfl (hb hby at_120) rfl (teq (rfl : (3 : Int32) = (3 : Int32))).1 (by decide) (by decide) ?_
      refine XS.iload X689.here hx rfl (hb hby at_125) rfl ?_
      refine XS.iconst X689.here hx rfl (hb hby at_127) ?_
      refine XS.icmpNo X689.here hx rfl (hb hby at_128) rfl (flt (by decide : ¬ ((3 : Int32) < (1 : Int32)))).1 ?_
      refine XS.aload X689.here hx rfl (hb hby at_131) rfl rfl ?_
      refine XS.aload X689.here hx rfl (hb hby at_133) rfl rfl ?_
      refine XS.iconst X689.here hx rfl (hb hby at_135) ?_
      exact k
    obtain ⟨cq692, kq692, q692a, q692b, q692c⟩ := isOf hZ e689 Q681
    obtain ⟨_, _, ⟨T692, L692, k692, n692⟩, -, X692, ⟨Lc692, hQ692, l692, y692, z692⟩, st692⟩ := X689.interfaceBack hx (xi := (⟨"java/util/List", "get", "(I)Ljava/lang/Object;"⟩ : MethodName)) (y := (⟨"java/util/ArrayList", "get", "(I)Ljava/lang/Object;"⟩ : MethodName)) hown (mvT hZ (own_w hw 129 rfl)) (mvT hZ (own_w hw 130 rfl)) (mvT hZ (own_w hw 131 rfl)) (mvT hZ (own_w hw 132 rfl)) (mvT hZ (own_w hw 133 rfl)) (mvT hZ (own_w hw 134 rfl)) (mvT hZ (own_w hw 135 rfl)) (mvT hZ (own_w hw 92 rfl)) (by decide) (backOf (W := 1) (get_0_3 l Z a0 hw [] b626 br_644 kb_644 rr_449 rr_454 rr_460 T673.heap n0 Z673 Q681 Q682 Q683 Q685) hZ (own_w hw 136 rfl) (own_w hw 39 rfl) (by decide) (by decide)) q692a q692b q692c (g := (mkF m 136 #[.val (.int p1), .val (.int p2), .val (.int p3), .val (.int p4), .val (.int (3 : Int32)), .val (.ref rr_449), .val (.ref rr_454), .val (.ref rr_460), .val (.ref b626), .val (.ref b626)] [(.int (0 : Int32)), (.ref b626), (.ref rr_449)])) rfl (by rw [hml]; rfl) (Steps.refl _) (argsL := [(.int (0 : Int32))]) (rest := [(.ref rr_449)]) (lenOf pd_11 rfl) rfl (by show 2 * 0 + _ ≤ _; exact Nat.le_of_eq rfl) (hb hby at_136) (fun _ _ => ⟨rfl, e689, (by decide : 21 + 0 ≤ _), (by decide : 135 + 0 ≤ _)⟩)
    dsimp only [Pt.U, Pt.locs, Pt.cells, Pt.slots] at X692 l692 y692 z692 st692 hQ692
    subst l692 y692 z692
    obtain ⟨rfl, Nq692, e692⟩ := hQ692
    have N692 := Fr.app N689 Nq692
    refine own_go (B := T692.setTop (mkF m 141 #[.val (.int p1), .val (.int p2), .val (.int p3), .val (.int p4), .val (.int (3 : Int32)), .val (.ref rr_449), .val (.ref rr_454), .val (.ref rr_460), .val (.ref b626), .val (.ref b626)] [(.ref rr_449), (.ref rr_449)])) (fun t k => st692.trans k) ?_
    obtain ⟨cq693, kq693, q693a, q693b, q693c⟩ := isOf hZ e692 Q678
    obtain ⟨_, _, ⟨T693, L693, k693, n693⟩, -, X693, ⟨Lc693, hQ693, l693, y693, z693⟩, st693⟩ := X692.virtualBack hx (y := (⟨"java/lang/String", "equals", "(Ljava/lang/Object;)Z"⟩ : MethodName)) (z := (⟨"java/lang/String", "equals", "(Ljava/lang/Object;)Z"⟩ : MethodName)) hown (mvT hZ (own_w hw 150 rfl)) (mvT hZ (own_w hw 151 rfl)) (notFace_of_selects (args := #[]) (mvT hZ (own_w hw 153 rfl))) (mvT hZ (own_w hw 153 rfl)) (mvT hZ (own_w hw 152 rfl)) (by decide) (backOf (W := 0) (eqs l Z a0 hw [] rr_449 rr_449 T673.heap n0 Z673 rfl) hZ (own_w hw 154 rfl) (own_w hw 5 rfl) (by decide) (by decide)) q693a q693c (g := (mkF m 141 #[.val (.int p1), .val (.int p2), .val (.int p3), .val (.int p4), .val (.int (3 : Int32)), .val (.ref rr_449), .val (.ref rr_454), .val (.ref rr_460), .val (.ref b626), .val (.ref b626)] [(.ref rr_449), (.ref rr_449)])) rfl (by rw [hml]; rfl) (Steps.refl _) (argsL := [(.ref rr_449)]) (rest := []) (lenOf pd_18 rfl) rfl (by show 2 * 0 + _ ≤ _; exact Nat.le_of_eq rfl) (hb hby at_141) (fun _ _ => ⟨rfl, e692, (by decide : 21 + 0 ≤ _), (by decide : 135 + 0 ≤ _)⟩)
    dsimp only [Pt.U, Pt.locs, Pt.cells, Pt.slots] at X693 l693 y693 z693 st693 hQ693
    subst l693 y693 z693
    obtain ⟨rfl, Nq693, e693⟩ := hQ693
    have N693 := Fr.app N692 Nq693
    refine own_go (B := T693.setTop (mkF m 144 #[.val (.int p1), .val (.int p2), .val (.int p3), .val (.int p4), .val (.int (3 : Int32)), .val (.ref rr_449), .val (.ref rr_454), .val (.ref rr_460), .val (.ref b626), .val (.ref b626)] [(.int (1 : Int32))])) (fun t k => st693.trans k) ?_
    refine own_go (B := T693.setTop (mkF m 160 #[.val (.int p1), .val (.int p2), .val (.int p3), .val (.int p4), .val (.int (3 : Int32)), .val (.ref rr_449), .val (.ref rr_454), .val (.ref rr_460), .val (.ref b626), .val (.ref b626)] [(.int (1 : Int32)), (.ref b626), (.ref rr_454)])) (fun t k => ?_) ?_
    · refine XS.ifYes X693.here hx rfl (pc0 := 144) (pc' := 149) rfl (hb hby at_144) rfl ((if0 _ _).trans (feq (by decide : ¬ ((1 : Int32) = (0 : Int32)))).2) (by decide) (by decide) ?_
      refine XS.iload X693.here hx rfl (hb hby at_149) rfl ?_
      refine XS.iconst X693.here hx rfl (hb hby at_151) ?_
      refine XS.icmpNo X693.here hx rfl (hb hby at_152) rfl (flt (by decide : ¬ ((3 : Int32) < (2 : Int32)))).1 ?_
      refine XS.aload X693.here hx rfl (hb hby at_155) rfl rfl ?_
      refine XS.aload X693.here hx rfl (hb hby at_157) rfl rfl ?_
      refine XS.iconst X693.here hx rfl (hb hby at_159) ?_
      exact k
    obtain ⟨cq696, kq696, q696a, q696b, q696c⟩ := isOf hZ e693 Q681
    obtain ⟨_, _, ⟨T696, L696, k696, n696⟩, -, X696, ⟨Lc696, hQ696, l696, y696, z696⟩, st696⟩ := X693.interfaceBack hx (xi := (⟨"java/util/List", "get", "(I)Ljava/lang/Object;"⟩ : MethodName)) (y := (⟨"java/util/ArrayList", "get", "(I)Ljava/lang/Object;"⟩ : MethodName)) hown (mvT hZ (own_w hw 129 rfl)) (mvT hZ (own_w hw 130 rfl)) (mvT hZ (own_w hw 131 rfl)) (mvT hZ (own_w hw 132 rfl)) (mvT hZ (own_w hw 133 rfl)) (mvT hZ (own_w hw 134 rfl)) (mvT hZ (own_w hw 135 rfl)) (mvT hZ (own_w hw 92 rfl)) (by decide) (backOf (W := 1) (get_1_3 l Z a0 hw [] b626 br_644 kb_644 rr_449 rr_454 rr_460 T673.heap n0 Z673 Q681 Q682 Q683 Q685) hZ (own_w hw 136 rfl) (own_w hw 39 rfl) (by decide) (by decide)) q696a q696b q696c (g := (mkF m 160 #[.val (.int p1), .val (.int p2), .val (.int p3), .val (.int p4), .val (.int (3 : Int32)), .val (.ref rr_449), .val (.ref rr_454), .val (.ref rr_460), .val (.ref b626), .val (.ref b626)] [(.int (1 : Int32)), (.ref b626), (.ref rr_454)])) rfl (by rw [hml]; rfl) (Steps.refl _) (argsL := [(.int (1 : Int32))]) (rest := [(.ref rr_454)]) (lenOf pd_11 rfl) rfl (by show 2 * 0 + _ ≤ _; exact Nat.le_of_eq rfl) (hb hby at_160) (fun _ _ => ⟨rfl, e693, (by decide : 21 + 0 ≤ _), (by decide : 135 + 0 ≤ _)⟩)
    dsimp only [Pt.U, Pt.locs, Pt.cells, Pt.slots] at X696 l696 y696 z696 st696 hQ696
    subst l696 y696 z696
    obtain ⟨rfl, Nq696, e696⟩ := hQ696
    have N696 := Fr.app N693 Nq696
    refine own_go (B := T696.setTop (mkF m 165 #[.val (.int p1), .val (.int p2), .val (.int p3), .val (.int p4), .val (.int (3 : Int32)), .val (.ref rr_449), .val (.ref rr_454), .val (.ref rr_460), .val (.ref b626), .val (.ref b626)] [(.ref rr_454), (.ref rr_454)])) (fun t k => st696.trans k) ?_
    obtain ⟨cq697, kq697, q697a, q697b, q697c⟩ := isOf hZ e696 Q679
    obtain ⟨_, _, ⟨T697, L697, k697, n697⟩, -, X697, ⟨Lc697, hQ697, l697, y697, z697⟩, st697⟩ := X696.virtualBack hx (y := (⟨"java/lang/String", "equals", "(Ljava/lang/Object;)Z"⟩ : MethodName)) (z := (⟨"java/lang/String", "equals", "(Ljava/lang/Object;)Z"⟩ : MethodName)) hown (mvT hZ (own_w hw 150 rfl)) (mvT hZ (own_w hw 151 rfl)) (notFace_of_selects (args := #[]) (mvT hZ (own_w hw 153 rfl))) (mvT hZ (own_w hw 153 rfl)) (mvT hZ (own_w hw 152 rfl)) (by decide) (backOf (W := 0) (eqs l Z a0 hw [] rr_454 rr_454 T673.heap n0 Z673 rfl) hZ (own_w hw 154 rfl) (own_w hw 5 rfl) (by decide) (by decide)) q697a q697c (g := (mkF m 165 #[.val (.int p1), .val (.int p2), .val (.int p3), .val (.int p4), .val (.int (3 : Int32)), .val (.ref rr_449), .val (.ref rr_454), .val (.ref rr_460), .val (.ref b626), .val (.ref b626)] [(.ref rr_454), (.ref rr_454)])) rfl (by rw [hml]; rfl) (Steps.refl _) (argsL := [(.ref rr_454)]) (rest := []) (lenOf pd_18 rfl) rfl (by show 2 * 0 + _ ≤ _; exact Nat.le_of_eq rfl) (hb hby at_165) (fun _ _ => ⟨rfl, e696, (by decide : 21 + 0 ≤ _), (by decide : 135 + 0 ≤ _)⟩)
    dsimp only [Pt.U, Pt.locs, Pt.cells, Pt.slots] at X697 l697 y697 z697 st697 hQ697
    subst l697 y697 z697
    obtain ⟨rfl, Nq697, e697⟩ := hQ697
    have N697 := Fr.app N696 Nq697
    refine own_go (B := T697.setTop (mkF m 168 #[.val (.int p1), .val (.int p2), .val (.int p3), .val (.int p4), .val (.int (3 : Int32)), .val (.ref rr_449), .val (.ref rr_454), .val (.ref rr_460), .val (.ref b626), .val (.ref b626)] [(.int (1 : Int32))])) (fun t k => st697.trans k) ?_
    refine own_go (B := T697.setTop (mkF m 184 #[.val (.int p1), .val (.int p2), .val (.int p3), .val (.int p4), .val (.int (3 : Int32)), .val (.ref rr_449), .val (.ref rr_454), .val (.ref rr_460), .val (.ref b626), .val (.ref b626)] [(.int (2 : Int32)), (.ref b626), (.ref rr_460)])) (fun t k => ?_) ?_
    · refine XS.ifYes X697.here hx rfl (pc0 := 168) (pc' := 173) rfl (hb hby at_168) rfl ((if0 _ _).trans (feq (by decide : ¬ ((1 : Int32) = (0 : Int32)))).2) (by decide) (by decide) ?_
      refine XS.iload X697.here hx rfl (hb hby at_173) rfl ?_
      refine XS.iconst X697.here hx rfl (hb hby at_175) ?_
      refine XS.icmpNo X697.here hx rfl (hb hby at_176) rfl (flt Int32.lt_irrefl).1 ?_
      refine XS.aload X697.here hx rfl (hb hby at_179) rfl rfl ?_
      refine XS.aload X697.here hx rfl (hb hby at_181) rfl rfl ?_
      refine XS.iconst X697.here hx rfl (hb hby at_183) ?_
      exact k
    obtain ⟨cq700, kq700, q700a, q700b, q700c⟩ := isOf hZ e697 Q681
    obtain ⟨_, _, ⟨T700, L700, k700, n700⟩, -, X700, ⟨Lc700, hQ700, l700, y700, z700⟩, st700⟩ := X697.interfaceBack hx (xi := (⟨"java/util/List", "get", "(I)Ljava/lang/Object;"⟩ : MethodName)) (y := (⟨"java/util/ArrayList", "get", "(I)Ljava/lang/Object;"⟩ : MethodName)) hown (mvT hZ (own_w hw 129 rfl)) (mvT hZ (own_w hw 130 rfl)) (mvT hZ (own_w hw 131 rfl)) (mvT hZ (own_w hw 132 rfl)) (mvT hZ (own_w hw 133 rfl)) (mvT hZ (own_w hw 134 rfl)) (mvT hZ (own_w hw 135 rfl)) (mvT hZ (own_w hw 92 rfl)) (by decide) (backOf (W := 1) (get_2_3 l Z a0 hw [] b626 br_644 kb_644 rr_449 rr_454 rr_460 T673.heap n0 Z673 Q681 Q682 Q683 Q685) hZ (own_w hw 136 rfl) (own_w hw 39 rfl) (by decide) (by decide)) q700a q700b q700c (g := (mkF m 184 #[.val (.int p1), .val (.int p2), .val (.int p3), .val (.int p4), .val (.int (3 : Int32)), .val (.ref rr_449), .val (.ref rr_454), .val (.ref rr_460), .val (.ref b626), .val (.ref b626)] [(.int (2 : Int32)), (.ref b626), (.ref rr_460)])) rfl (by rw [hml]; rfl) (Steps.refl _) (argsL := [(.int (2 : Int32))]) (rest := [(.ref rr_460)]) (lenOf pd_11 rfl) rfl (by show 2 * 0 + _ ≤ _; exact Nat.le_of_eq rfl) (hb hby at_184) (fun _ _ => ⟨rfl, e697, (by decide : 21 + 0 ≤ _), (by decide : 135 + 0 ≤ _)⟩)
    dsimp only [Pt.U, Pt.locs, Pt.cells, Pt.slots] at X700 l700 y700 z700 st700 hQ700
    subst l700 y700 z700
    obtain ⟨rfl, Nq700, e700⟩ := hQ700
    have N700 := Fr.app N697 Nq700
    refine own_go (B := T700.setTop (mkF m 189 #[.val (.int p1), .val (.int p2), .val (.int p3), .val (.int p4), .val (.int (3 : Int32)), .val (.ref rr_449), .val (.ref rr_454), .val (.ref rr_460), .val (.ref b626), .val (.ref b626)] [(.ref rr_460), (.ref rr_460)])) (fun t k => st700.trans k) ?_
    obtain ⟨cq701, kq701, q701a, q701b, q701c⟩ := isOf hZ e700 Q680
    obtain ⟨_, _, ⟨T701, L701, k701, n701⟩, -, X701, ⟨Lc701, hQ701, l701, y701, z701⟩, st701⟩ := X700.virtualBack hx (y := (⟨"java/lang/String", "equals", "(Ljava/lang/Object;)Z"⟩ : MethodName)) (z := (⟨"java/lang/String", "equals", "(Ljava/lang/Object;)Z"⟩ : MethodName)) hown (mvT hZ (own_w hw 150 rfl)) (mvT hZ (own_w hw 151 rfl)) (notFace_of_selects (args := #[]) (mvT hZ (own_w hw 153 rfl))) (mvT hZ (own_w hw 153 rfl)) (mvT hZ (own_w hw 152 rfl)) (by decide) (backOf (W := 0) (eqs l Z a0 hw [] rr_460 rr_460 T673.heap n0 Z673 rfl) hZ (own_w hw 154 rfl) (own_w hw 5 rfl) (by decide) (by decide)) q701a q701c (g := (mkF m 189 #[.val (.int p1), .val (.int p2), .val (.int p3), .val (.int p4), .val (.int (3 : Int32)), .val (.ref rr_449), .val (.ref rr_454), .val (.ref rr_460), .val (.ref b626), .val (.ref b626)] [(.ref rr_460), (.ref rr_460)])) rfl (by rw [hml]; rfl) (Steps.refl _) (argsL := [(.ref rr_460)]) (rest := []) (lenOf pd_18 rfl) rfl (by show 2 * 0 + _ ≤ _; exact Nat.le_of_eq rfl) (hb hby at_189) (fun _ _ => ⟨rfl, e700, (by decide : 21 + 0 ≤ _), (by decide : 135 + 0 ≤ _)⟩)
    dsimp only [Pt.U, Pt.locs, Pt.cells, Pt.slots] at X701 l701 y701 z701 st701 hQ701
    subst l701 y701 z701
    obtain ⟨rfl, Nq701, e701⟩ := hQ701
    have N701 := Fr.app N700 Nq701
    refine own_go (B := T701.setTop (mkF m 192 #[.val (.int p1), .val (.int p2), .val (.int p3), .val (.int p4), .val (.int (3 : Int32)), .val (.ref rr_449), .val (.ref rr_454), .val (.ref rr_460), .val (.ref b626), .val (.ref b626)] [(.int (1 : Int32))])) (fun t k => st701.trans k) ?_
    refine own_go (B := T701.setTop (mkF m 198 #[.val (.int p1), .val (.int p2), .val (.int p3), .val (.int p4), .val (.int (3 : Int32)), .val (.ref rr_449), .val (.ref rr_454), .val (.ref rr_460), .val (.ref b626), .val (.ref b626)] [(.int (1 : Int32))])) (fun t k => ?_) ?_
    · refine XS.ifYes X701.here hx rfl (pc0 := 192) (pc' := 197) rfl (hb hby at_192) rfl ((if0 _ _).trans (feq (by decide : ¬ ((1 : Int32) = (0 : Int32)))).2) (by decide) (by decide) ?_
      refine XS.iconst X701.here hx rfl (hb hby at_197) ?_
      exact k
    obtain ⟨fs, hr, hrun, hended, hq⟩ := X701.leaveW hS460 (by rw [e701]; exact hk673) (v := some (.int (1 : Int32))) (fun h => by rw [Bd.returns] at h; cases h)
    refine ⟨_, _, ?_, hrun, hended, _, _, rfl, ?_, hq.1, hq.2.1, hq.2.2.1, hq.2.2.2.mono (by decide) (by decide)⟩
    · show Steps p.tables e below (T701.setTop (mkF m 198 #[.val (.int p1), .val (.int p2), .val (.int p3), .val (.int p4), .val (.int (3 : Int32)), .val (.ref rr_449), .val (.ref rr_454), .val (.ref rr_460), .val (.ref b626), .val (.ref b626)] [(.int (1 : Int32))])) _
      exact retN X701 hx (t := .boolean) Bd.returns (by simp) (hb hby at_198) hr
    · show Qrm0 Z p1 p2 p3 p4 cs de kd oe h0 n0 _ T701.heap _
      rw [e701]
      exact ⟨rfl, N701⟩
set_option maxRecDepth 65536 in
set_option maxHeartbeats 40000000 in
theorem comes_1 {Post : Tables → Env → Array Value → State → Outcome → State → Prop} (hpost : ∀ tb e args s v u, (limb_1_1.after args s (.returned v) u = true ∧ limb_1_2.after args s (.returned v) u = true ∧ True) → FramedW s (.returned v) u (Jvm.fieldLocs frame_1_writes args s ++ Jvm.arrayLocs frame_1_arrays args s ++ Jvm.staticLocs frame_1_statics s) 40 2240 → Post tb e args s (.returned v) u) :
    ArmFor flags0 classFile x code maxLocals ret World_1 tables_1 room_1 Calls_1 rest_1 Pre_1 Post := by
  intro l hfl _ _ p e ha hc hk s m args below hf hA hF happ hP
  obtain ⟨hcalls, hrest, hpre⟩ := hP
  obtain ⟨-, -, -, hnamed, -, -, -, hat⟩ := (Spec.applies_iff hf).mp happ
  obtain ⟨hg, hn⟩ := and_e (Cond.before_iff.mp (show (Jvm.Cond.and given_1 narrow_1).before args s = true from hpre))
  obtain ⟨hg0, hgs⟩ := and_e hg
  obtain ⟨w0, w1, w2, w3, rfl⟩ : ∃ w0 w1 w2 w3 : Value, args = #[w0, w1, w2, w3] := by
    have hs : args.size = 4 := by simpa [Cond.value, given_1] using hg0
    obtain ⟨L⟩ := args
    match L, hs with
    | [w0, w1, w2, w3], _ => exact ⟨w0, w1, w2, w3, rfl⟩
  have hw := fun d (hd : d ∈ tables_1) => atoms_spec (ws := Jvm.Cond.code x code maxLocals ret :: tables_1) hat d (List.mem_cons_of_mem _ hd)
  have hfit : Fit s := fun {y c} hc i hi => by
    obtain ⟨ha, rfl⟩ := Array.getElem?_eq_some_iff.mp hc
    have q := List.all_eq_true.mp ((Array.all_eq_true_iff_forall_mem.mp hF) _ (Array.getElem_mem ha)) i (List.mem_range.mpr hi)
    simpa [Array.getElem?_eq_getElem hi] using q
  obtain ⟨hsets, hown0⟩ := atoms_of _ (rest_1_c_eq ▸ (show rest_1_c.before _ s = true from hrest))
  have hr0 := Cond.before_iff.mp hown0
  obtain ⟨gi0, gr0⟩ := and_e hgs
  obtain ⟨i0, ei0⟩ := is_v gi0
  obtain rfl : w0 = (.int i0) := Option.some.inj ei0
  obtain ⟨gi1, gr1⟩ := and_e gr0
  obtain ⟨i1, ei1⟩ := is_v gi1
  obtain rfl : w1 = (.int i1) := Option.some.inj ei1
  obtain ⟨gi2, gr2⟩ := and_e gr1
  obtain ⟨i2, ei2⟩ := is_v gi2
  obtain rfl : w2 = (.int i2) := Option.some.inj ei2
  obtain ⟨i3, ei3⟩ := is_v gr2
  obtain rfl : w3 = (.int i3) := Option.some.inj ei3
  obtain ⟨cs, ev_cs⟩ := is_v (Cond.before_iff.mp (hsets _ (List.mem_of_getElem? (i := 1) rfl)))
  have S_cs : Sta s s.heap "java/lang/String" "COMPACT_STRINGS" "Z" (.int cs) := Sta.start ev_cs (Or.inl (hsets _ (List.mem_of_getElem? (i := 0) rfl)))
  have hcw := (hsets _ (List.mem_of_getElem? (i := 2) rfl))
  have hcs : cs ≠ (0 : Int32) := fun q => by
    subst q
    have h9 := Cond.before_iff.mp hcw
    simp [Cond.value, ev_cs, Term.int_eval] at h9
  obtain ⟨de, ev_de⟩ := arr_v (Cond.before_iff.mp (hsets _ (List.mem_of_getElem? (i := 15) rfl)))
  have S_de : Sta s s.heap "java/util/ArrayList" "DEFAULTCAPACITY_EMPTY_ELEMENTDATA" "[Ljava/lang/Object;" (.ref de) := Sta.start ev_de (Or.inr ⟨(own_w hw 39 rfl), (hsets _ (List.mem_of_getElem? (i := 11) rfl))⟩)
  obtain ⟨kd, V_de⟩ := own_emp (dv := .null) hfit ev_de (Cond.before_iff.mp (hsets _ (List.mem_of_getElem? (i := 15) rfl))) (Cond.before_iff.mp (hsets _ (List.mem_of_getElem? (i := 17) rfl)))
  obtain ⟨oe, ev_oe⟩ := exa_v (Cond.before_iff.mp (hsets _ (List.mem_of_getElem? (i := 20) rfl)))
  have S_oe : Sta s s.heap "java/util/Optional" "EMPTY" "Ljava/util/Optional;" (.ref oe) := Sta.start ev_oe (Or.inl (hsets _ (List.mem_of_getElem? (i := 19) rfl)))
  have hEL : EW s _ consts_1 := EW.cons (own_w hw 4 rfl) (by decide) (EW.cons (own_w hw 96 rfl) (by decide) EW.nil)
  have hC : CHv s consts_1 s.vm s.heap := CHv.start hEL hcalls.1 hcw (own_w hw 7 rfl) (own_w hw 6 rfl)
  obtain ⟨n, o, h1, h2, h3, _, L, rfl, ⟨hv, N⟩, hq⟩ := rm0 l s _ hw tables_1 i0 i1 i2 i3 cs de kd oe s.heap s.heap.size (Nat.le_refl _) hEL S_cs S_de V_de S_oe hcs p e ha hc hk s m _ below hf ((Spec.applies_iff_loose hf).mp happ).1 ⟨rfl, State.Warmed39.refl s, rfl, hC⟩ trivial
  obtain rfl := hv
  refine ⟨n, _, h1, h2, h3, hpost _ _ _ _ _ _ ⟨Cond.after_iff.mpr rfl, Cond.after_iff.mpr (eq_i res_at (Term.int_eval (1)) rfl), trivial⟩ ⟨hq.1, hq.2.1, hq.2.2.1, (hq.2.2.2.sift fun y hy => Or.inr (N y hy)).mono (by decide) (by decide)⟩⟩
theorem main_1_1 : Claimed_1_1 := comes_1 fun _ _ _ _ _ _ h hF => ⟨h.1, hF⟩
theorem main_1_2 : Claimed_1_2 := comes_1 fun _ _ _ _ _ _ h hF => ⟨h.2.1, hF⟩
end Jvm.Pilot.@@N@@
namespace Jvm.Pilot.@@N@@
open Jvm Jvm.ClassFile Sem Op Lib Jvm.Free Jvm.Stand Jvm.Pilot.@@N@@.Jvm.D
/-! MADE BY PROGRAM (witnessworld.py) out of the Statement's table words and the real class files: 32 classes; the members and pool entries that the words name. The judged class is class 1, her method 2. -/
namespace start1
open Jvm.ClassFile
def u (s : String) : CpInfo := .utf8 (stringToUtf16 s)
/-- a pool by its gaps: so many unusable entries, then the entry; so many at the end -/
def gap : Nat → List CpInfo → List CpInfo
  | 0, r => r
  | n + 1, r => .unusable :: gap n r
def poolList (es : List (Nat × CpInfo)) (last : Nat) : List CpInfo := es.foldr (fun e r => gap e.1 (e.2 :: r)) (gap last [])
def pool (es : List (Nat × CpInfo)) (last : Nat) : Array CpInfo := ⟨poolList es last⟩
def fileOf (pool : Array CpInfo) (this : Nat) (attrs : Array Attribute := #[]) (ms : Array MethodInfo := #[]) (fl : Nat := 33) (sup : Nat := 0) (ifs : Array Nat := #[]) (fds : Array FieldInfo := #[]) : ClassFile where
  minorVersion := 0
  majorVersion := 65
  constantPool := pool
  accessFlags := fl
  thisClass := this
  superClass := sup
  interfaces := ifs
  fields := fds
  methods := ms
  attributes := attrs
def plain (name : String) (sup : Option ClassId) : Class where
  name := name
  kind := .ordinary
  loader := none
  accessFlags := 33
  super := sup
  interfaces := #[]
  cf := none
  fields := #[]
  methods := #[]
  instanceTypes := #[]
  staticTypes := #[]
  resolved := #[]
  callSites := []
  init := .initialized
  statics := none
  mirror := none

def pool0 : Array CpInfo := pool [(5, u "<init>"), (0, u "()V"), (1, .class_ 10), (1, u "java/lang/Object")] 113

def k0c0 : Code := { maxStack := 0, maxLocals := 1, code := object_method_1_code, exceptionTable := #[], attributes := #[] }
def k0m0 : Method := { name := "<init>", desc := "()V", sig := { parameters := [], returnType := none }, accessFlags := 1, code := some k0c0 }
/-- java/lang/Object -/
def k0 : Class := { plain "java/lang/Object" none with
  accessFlags := 33
  interfaces := #[]
  cf := some (fileOf pool0 8 #[] #[{ accessFlags := 1, nameIndex := 5, descriptorIndex := 6, attributes := #[] }] 33 0 #[] #[])
  fields := #[]
  methods := #[k0m0]
  instanceTypes := #[]
  staticTypes := #[]
  resolved := Array.replicate 124 none
  statics := none }

def pool1 : Array CpInfo := pool [(2, .class_ 4), (0, .nameAndType 5 6), (0, u "java/lang/Object"), (0, u "<init>"), (0, u "()V"), (0, .string 8), (0, u "--timings"), (0, .class_ 10), (0, u "java/lang/String"), (0, .methodref 9 12), (0, .nameAndType 5 13), (0, u "([C)V"), (0, .methodref 15 16), (0, .class_ 17), (0, .nameAndType 18 19), (0, u "com/example/axiomwright/axiomwright/cli/TimingsNonePinLaw"), (0, u "element"), (0, u "(I)Ljava/lang/String;"), (0, .class_ 21), (0, u "java/util/ArrayList"), (0, .methodref 20 3), (0, .interfaceMethodref 24 25), (0, .class_ 26), (0, .nameAndType 27 28), (0, u "java/util/List"), (0, u "add"), (0, u "(Ljava/lang/Object;)Z"), (0, .methodref 30 31), (0, .class_ 32), (0, .nameAndType 33 34), (0, u "com/example/axiomwright/axiomwright/cli/Timings"), (0, u "none"), (0, u "(Ljava/util/List;)Lcom/example/axiomwright/axiomwright/cli/Timings;"), (0, .methodref 30 36), (0, .nameAndType 37 38), (0, u "arguments"), (0, u "()Ljava/util/List;"), (0, .interfaceMethodref 24 40), (0, .nameAndType 41 42), (0, u "size"), (0, u "()I"), (0, .interfaceMethodref 24 44), (0, .nameAndType 45 46), (0, u "get"), (0, u "(I)Ljava/lang/Object;"), (0, .methodref 9 48), (0, .nameAndType 49 28), (0, u "equals"), (3, u "law"), (0, u "(IIII)Z")] 2

def k1m0 : Method := { name := "<init>", desc := "()V", sig := { parameters := [], returnType := none }, accessFlags := 1, code := none }
def k1c1 : Code := { maxStack := 6, maxLocals := 5, code := method_2_code, exceptionTable := #[], attributes := #[] }
def k1m1 : Method := { name := "element", desc := "(I)Ljava/lang/String;", sig := { parameters := [.int], returnType := some (.object "java/lang/String") }, accessFlags := 10, code := some k1c1 }
def k1c2 : Code := { maxStack := 3, maxLocals := 10, code := code, exceptionTable := #[], attributes := #[] }
def k1m2 : Method := { name := "law", desc := "(IIII)Z", sig := { parameters := [.int, .int, .int, .int], returnType := some .boolean }, accessFlags := 9, code := some k1c2 }
/-- com/example/axiomwright/axiomwright/cli/TimingsNonePinLaw -/
def k1 : Class := { plain "com/example/axiomwright/axiomwright/cli/TimingsNonePinLaw" (some 0) with
  accessFlags := 49
  interfaces := #[]
  cf := some (fileOf pool1 15 #[] #[{ accessFlags := 1, nameIndex := 5, descriptorIndex := 6, attributes := #[] }, { accessFlags := 10, nameIndex := 18, descriptorIndex := 19, attributes := #[] }, { accessFlags := 9, nameIndex := 53, descriptorIndex := 54, attributes := #[] }] 49 2 #[] #[])
  fields := #[]
  methods := #[k1m0, k1m1, k1m2]
  instanceTypes := #[]
  staticTypes := #[]
  resolved := Array.replicate 57 none
  statics := none }

def pool2 : Array CpInfo := pool [(1, .class_ 2), (0, u "java/io/Serializable"), (0, .class_ 4), (0, u "java/lang/Object")] 2

/-- java/io/Serializable -/
def k2 : Class := { plain "java/io/Serializable" (some 0) with
  accessFlags := 1537
  interfaces := #[]
  cf := some (fileOf pool2 1 #[] #[] 1537 3 #[] #[])
  fields := #[]
  methods := #[]
  instanceTypes := #[]
  staticTypes := #[]
  resolved := Array.replicate 7 none
  statics := none }

def pool3 : Array CpInfo := pool [(1, .class_ 2), (0, u "java/lang/Comparable"), (0, .class_ 4), (0, u "java/lang/Object")] 7

/-- java/lang/Comparable -/
def k3 : Class := { plain "java/lang/Comparable" (some 0) with
  accessFlags := 1537
  interfaces := #[]
  cf := some (fileOf pool3 1 #[] #[] 1537 3 #[] #[])
  fields := #[]
  methods := #[]
  instanceTypes := #[]
  staticTypes := #[]
  resolved := Array.replicate 12 none
  statics := none }

def pool4 : Array CpInfo := pool [(2, .class_ 4), (1, u "java/lang/CharSequence"), (42, .class_ 48), (0, u "java/lang/CharSequence$1CodePointIterator"), (10, .class_ 60), (0, u "java/lang/CharSequence$1CharIterator"), (5, .class_ 67), (0, u "java/lang/Object")] 63

/-- java/lang/CharSequence -/
def k4 : Class := { plain "java/lang/CharSequence" (some 0) with
  accessFlags := 1537
  interfaces := #[]
  cf := some (fileOf pool4 2 #[.nestMembers #[47, 59]] #[] 1537 66 #[] #[])
  fields := #[]
  methods := #[]
  instanceTypes := #[]
  staticTypes := #[]
  resolved := Array.replicate 131 none
  statics := none }

def pool5 : Array CpInfo := pool [(1, .class_ 2), (0, u "java/lang/constant/Constable"), (0, .class_ 4), (0, u "java/lang/Object")] 6

/-- java/lang/constant/Constable -/
def k5 : Class := { plain "java/lang/constant/Constable" (some 0) with
  accessFlags := 1537
  interfaces := #[]
  cf := some (fileOf pool5 1 #[] #[] 1537 3 #[] #[])
  fields := #[]
  methods := #[]
  instanceTypes := #[]
  staticTypes := #[]
  resolved := Array.replicate 11 none
  statics := none }

def pool6 : Array CpInfo := pool [(1, .class_ 2), (0, u "java/lang/constant/ConstantDesc"), (0, .class_ 4), (0, u "java/lang/Object")] 32

/-- java/lang/constant/ConstantDesc -/
def k6 : Class := { plain "java/lang/constant/ConstantDesc" (some 0) with
  accessFlags := 1537
  interfaces := #[]
  cf := some (fileOf pool6 1 #[] #[] 1537 3 #[] #[])
  fields := #[]
  methods := #[]
  instanceTypes := #[]
  staticTypes := #[]
  resolved := Array.replicate 37 none
  statics := none }

def pool7 : Array CpInfo := pool [(1, .methodref 2 3), (0, .class_ 4), (0, .nameAndType 5 6), (0, u "java/lang/Object"), (0, u "<init>"), (0, u "()V"), (0, .string 8), (0, u ""), (0, .fieldref 10 11), (0, .class_ 12), (0, .nameAndType 13 14), (0, u "java/lang/String"), (0, u "value"), (0, u "[B"), (0, .fieldref 10 16), (0, .nameAndType 17 18), (0, u "coder"), (0, u "B"), (2, u "hash"), (0, u "I"), (2, u "hashIsZero"), (0, u "Z"), (0, .methodref 10 28), (0, .nameAndType 5 29), (0, u "([CIILjava/lang/Void;)V"), (8, .fieldref 10 39), (0, .nameAndType 40 26), (0, u "COMPACT_STRINGS"), (1, .class_ 44), (1, u "java/lang/StringUTF16"), (0, u "compress"), (1, .methodref 42 48), (0, .nameAndType 49 50), (0, u "coderFromArrayLen"), (0, u "([BI)B"), (126, .methodref 42 178), (0, .nameAndType 45 179), (0, u "([CII)[B"), (363, u "equals"), (29, u "(Ljava/lang/Object;)Z"), (1, .class_ 576), (0, u "java/lang/CharSequence"), (22, u "CASE_INSENSITIVE_ORDER"), (0, u "Ljava/util/Comparator;"), (409, u "([C)V"), (90, u "serialPersistentFields"), (0, u "[Ljava/io/ObjectStreamField;"), (0, .class_ 1104), (0, u "java/lang/String$CaseInsensitiveComparator"), (1, .class_ 1107), (0, u "java/io/Serializable"), (0, .class_ 1109), (0, u "java/lang/Comparable"), (0, .class_ 1111), (0, u "java/lang/constant/Constable"), (0, .class_ 1113), (0, u "java/lang/constant/ConstantDesc"), (2, u "serialVersionUID"), (0, u "J"), (3, u "REPL"), (0, u "C"), (2, u "LATIN1"), (1, u "UTF16")] 323

def k7m0 : Method := { name := "<init>", desc := "()V", sig := { parameters := [], returnType := none }, accessFlags := 1, code := none }
def k7c1 : Code := { maxStack := 5, maxLocals := 2, code := jdk_42_method_3_code, exceptionTable := #[], attributes := #[] }
def k7m1 : Method := { name := "<init>", desc := "([C)V", sig := { parameters := [(.array .char)], returnType := none }, accessFlags := 1, code := some k7c1 }
def k7c2 : Code := { maxStack := 2, maxLocals := 3, code := jdk_42_method_66_code, exceptionTable := #[], attributes := #[] }
def k7m2 : Method := { name := "equals", desc := "(Ljava/lang/Object;)Z", sig := { parameters := [(.object "java/lang/Object")], returnType := some .boolean }, accessFlags := 1, code := some k7c2 }
def k7c3 : Code := { maxStack := 4, maxLocals := 6, code := jdk_42_method_149_code, exceptionTable := #[], attributes := #[] }
def k7m3 : Method := { name := "<init>", desc := "([CIILjava/lang/Void;)V", sig := { parameters := [(.array .char), .int, .int, (.object "java/lang/Void")], returnType := none }, accessFlags := 2, code := some k7c3 }
/-- java/lang/String -/
def k7 : Class := { plain "java/lang/String" (some 0) with
  accessFlags := 49
  interfaces := #[2, 3, 4, 5, 6]
  cf := some (fileOf pool7 10 #[.nestMembers #[1103]] #[{ accessFlags := 1, nameIndex := 5, descriptorIndex := 6, attributes := #[] }, { accessFlags := 1, nameIndex := 5, descriptorIndex := 1010, attributes := #[] }, { accessFlags := 1, nameIndex := 543, descriptorIndex := 573, attributes := #[] }, { accessFlags := 2, nameIndex := 5, descriptorIndex := 29, attributes := #[] }] 49 2 #[1106, 1108, 575, 1110, 1112] #[{ accessFlags := 18, nameIndex := 13, descriptorIndex := 14, attributes := #[] }, { accessFlags := 18, nameIndex := 17, descriptorIndex := 18, attributes := #[] }, { accessFlags := 2, nameIndex := 21, descriptorIndex := 22, attributes := #[] }, { accessFlags := 2, nameIndex := 25, descriptorIndex := 26, attributes := #[] }, { accessFlags := 26, nameIndex := 1116, descriptorIndex := 1117, attributes := #[] }, { accessFlags := 24, nameIndex := 40, descriptorIndex := 26, attributes := #[] }, { accessFlags := 26, nameIndex := 1101, descriptorIndex := 1102, attributes := #[] }, { accessFlags := 26, nameIndex := 1121, descriptorIndex := 1122, attributes := #[] }, { accessFlags := 25, nameIndex := 599, descriptorIndex := 600, attributes := #[] }, { accessFlags := 24, nameIndex := 1125, descriptorIndex := 18, attributes := #[] }, { accessFlags := 24, nameIndex := 1127, descriptorIndex := 18, attributes := #[] }])
  fields := #[{ name := "value", type := (.array .byte), accessFlags := 18, slot := 0, constantValue := 0 }, { name := "coder", type := .byte, accessFlags := 18, slot := 1, constantValue := 0 }, { name := "hash", type := .int, accessFlags := 2, slot := 2, constantValue := 0 }, { name := "hashIsZero", type := .boolean, accessFlags := 2, slot := 3, constantValue := 0 }, { name := "serialVersionUID", type := .long, accessFlags := 26, slot := 0, constantValue := 0 }, { name := "COMPACT_STRINGS", type := .boolean, accessFlags := 24, slot := 1, constantValue := 0 }, { name := "serialPersistentFields", type := (.array (.object "java/io/ObjectStreamField")), accessFlags := 26, slot := 2, constantValue := 0 }, { name := "REPL", type := .char, accessFlags := 26, slot := 3, constantValue := 0 }, { name := "CASE_INSENSITIVE_ORDER", type := (.object "java/util/Comparator"), accessFlags := 25, slot := 4, constantValue := 0 }, { name := "LATIN1", type := .byte, accessFlags := 24, slot := 5, constantValue := 0 }, { name := "UTF16", type := .byte, accessFlags := 24, slot := 6, constantValue := 0 }]
  methods := #[k7m0, k7m1, k7m2, k7m3]
  instanceTypes := #[(.array .byte), .byte, .int, .boolean]
  staticTypes := #[.long, .boolean, (.array (.object "java/io/ObjectStreamField")), .char, (.object "java/util/Comparator"), .byte, .byte]
  resolved := Array.replicate 1451 none
  statics := some 0 }

def pool8 : Array CpInfo := pool [(6, .class_ 8), (1, u "java/lang/Object"), (0, u "<init>"), (0, u "()V"), (1, .class_ 14), (1, u "java/lang/StringUTF16"), (31, u "$assertionsDisabled"), (0, u "Z"), (13, u "HI_BYTE_SHIFT"), (0, u "I"), (2, u "LO_BYTE_SHIFT"), (49, .methodref 12 116), (0, .nameAndType 117 118), (0, u "compress"), (0, u "([CI[BII)I"), (3, u "([CII)[B"), (138, u "coderFromArrayLen"), (0, u "([BI)B"), (106, .class_ 371), (1, u "java/lang/StringUTF16$LinesSpliterator"), (58, u "MAX_LENGTH"), (196, .class_ 628), (0, u "java/lang/StringUTF16$CodePointsSpliterator"), (0, .class_ 630), (0, u "java/lang/StringUTF16$CharsSpliterator")] 4

def k8m0 : Method := { name := "<init>", desc := "()V", sig := { parameters := [], returnType := none }, accessFlags := 0, code := none }
def k8c1 : Code := { maxStack := 2, maxLocals := 2, code := jdk_52_method_15_code, exceptionTable := #[], attributes := #[] }
def k8m1 : Method := { name := "coderFromArrayLen", desc := "([BI)B", sig := { parameters := [(.array .byte), .int], returnType := some .byte }, accessFlags := 8, code := some k8c1 }
def k8c2 : Code := { maxStack := 5, maxLocals := 6, code := jdk_52_method_16_code, exceptionTable := #[], attributes := #[] }
def k8m2 : Method := { name := "compress", desc := "([CII)[B", sig := { parameters := [(.array .char), .int, .int], returnType := some (.array .byte) }, accessFlags := 9, code := some k8c2 }
def k8c3 : Code := { maxStack := 3, maxLocals := 7, code := jdk_52_method_21_code, exceptionTable := #[], attributes := #[] }
def k8m3 : Method := { name := "compress", desc := "([CI[BII)I", sig := { parameters := [(.array .char), .int, (.array .byte), .int, .int], returnType := some .int }, accessFlags := 9, code := some k8c3 }
/-- java/lang/StringUTF16 -/
def k8 : Class := { plain "java/lang/StringUTF16" (some 0) with
  accessFlags := 48
  interfaces := #[]
  cf := some (fileOf pool8 12 #[.nestMembers #[627, 629, 369]] #[{ accessFlags := 0, nameIndex := 9, descriptorIndex := 10, attributes := #[] }, { accessFlags := 8, nameIndex := 261, descriptorIndex := 262, attributes := #[] }, { accessFlags := 9, nameIndex := 117, descriptorIndex := 122, attributes := #[] }, { accessFlags := 9, nameIndex := 117, descriptorIndex := 118, attributes := #[] }] 48 6 #[] #[{ accessFlags := 26, nameIndex := 61, descriptorIndex := 62, attributes := #[] }, { accessFlags := 26, nameIndex := 65, descriptorIndex := 62, attributes := #[] }, { accessFlags := 24, nameIndex := 430, descriptorIndex := 62, attributes := #[] }, { accessFlags := 4120, nameIndex := 46, descriptorIndex := 47, attributes := #[] }])
  fields := #[{ name := "HI_BYTE_SHIFT", type := .int, accessFlags := 26, slot := 0, constantValue := 0 }, { name := "LO_BYTE_SHIFT", type := .int, accessFlags := 26, slot := 1, constantValue := 0 }, { name := "MAX_LENGTH", type := .int, accessFlags := 24, slot := 2, constantValue := 0 }, { name := "$assertionsDisabled", type := .boolean, accessFlags := 4120, slot := 3, constantValue := 0 }]
  methods := #[k8m0, k8m1, k8m2, k8m3]
  instanceTypes := #[]
  staticTypes := #[.int, .int, .int, .boolean]
  resolved := Array.replicate 635 none
  statics := none }

def pool9 : Array CpInfo := pool [(8, .class_ 10), (1, u "java/lang/Iterable"), (24, .class_ 36), (0, u "java/lang/Object")] 25

/-- java/lang/Iterable -/
def k9 : Class := { plain "java/lang/Iterable" (some 0) with
  accessFlags := 1537
  interfaces := #[]
  cf := some (fileOf pool9 8 #[] #[] 1537 35 #[] #[])
  fields := #[]
  methods := #[]
  instanceTypes := #[]
  staticTypes := #[]
  resolved := Array.replicate 62 none
  statics := none }

def pool10 : Array CpInfo := pool [(10, .class_ 12), (1, u "java/util/Collection"), (47, .class_ 61), (0, u "java/lang/Object"), (0, .class_ 63), (0, u "java/lang/Iterable")] 51

/-- java/util/Collection -/
def k10 : Class := { plain "java/util/Collection" (some 0) with
  accessFlags := 1537
  interfaces := #[9]
  cf := some (fileOf pool10 10 #[] #[] 1537 60 #[62] #[])
  fields := #[]
  methods := #[]
  instanceTypes := #[]
  staticTypes := #[]
  resolved := Array.replicate 115 none
  statics := none }

def pool11 : Array CpInfo := pool [(1, .methodref 2 3), (0, .class_ 4), (0, .nameAndType 5 6), (0, u "java/lang/Object"), (0, u "<init>"), (0, u "()V"), (1, .class_ 10), (1, u "java/util/AbstractCollection"), (66, .class_ 78), (0, u "java/util/Collection")] 81

def k11c0 : Code := { maxStack := 1, maxLocals := 1, code := jdk_22_method_1_code, exceptionTable := #[], attributes := #[] }
def k11m0 : Method := { name := "<init>", desc := "()V", sig := { parameters := [], returnType := none }, accessFlags := 4, code := some k11c0 }
/-- java/util/AbstractCollection -/
def k11 : Class := { plain "java/util/AbstractCollection" (some 0) with
  accessFlags := 1057
  interfaces := #[10]
  cf := some (fileOf pool11 8 #[] #[{ accessFlags := 4, nameIndex := 5, descriptorIndex := 6, attributes := #[] }] 1057 2 #[77] #[])
  fields := #[]
  methods := #[k11m0]
  instanceTypes := #[]
  staticTypes := #[]
  resolved := Array.replicate 160 none
  statics := none }

def pool12 : Array CpInfo := pool [(8, .class_ 10), (1, u "java/util/SequencedCollection"), (15, .class_ 27), (0, u "java/lang/Object"), (0, .class_ 29), (0, u "java/util/Collection")] 27

/-- java/util/SequencedCollection -/
def k12 : Class := { plain "java/util/SequencedCollection" (some 0) with
  accessFlags := 1537
  interfaces := #[10]
  cf := some (fileOf pool12 8 #[] #[] 1537 26 #[28] #[])
  fields := #[]
  methods := #[]
  instanceTypes := #[]
  staticTypes := #[]
  resolved := Array.replicate 57 none
  statics := none }

def pool13 : Array CpInfo := pool [(8, .class_ 10), (1, u "java/util/List"), (49, u "add"), (3, u "(Ljava/lang/Object;)Z"), (10, u "get"), (0, u "(I)Ljava/lang/Object;"), (2, u "size"), (0, u "()I"), (22, .class_ 104), (0, u "java/lang/Object"), (15, .class_ 121), (0, u "java/util/SequencedCollection")] 129

def k13m0 : Method := { name := "size", desc := "()I", sig := { parameters := [], returnType := some .int }, accessFlags := 1025, code := none }
def k13m1 : Method := { name := "add", desc := "(Ljava/lang/Object;)Z", sig := { parameters := [(.object "java/lang/Object")], returnType := some .boolean }, accessFlags := 1025, code := none }
def k13m2 : Method := { name := "get", desc := "(I)Ljava/lang/Object;", sig := { parameters := [.int], returnType := some (.object "java/lang/Object") }, accessFlags := 1025, code := none }
/-- java/util/List -/
def k13 : Class := { plain "java/util/List" (some 0) with
  accessFlags := 1537
  interfaces := #[12]
  cf := some (fileOf pool13 8 #[] #[{ accessFlags := 1025, nameIndex := 79, descriptorIndex := 80, attributes := #[] }, { accessFlags := 1025, nameIndex := 60, descriptorIndex := 64, attributes := #[] }, { accessFlags := 1025, nameIndex := 75, descriptorIndex := 76, attributes := #[] }] 1537 103 #[120] #[])
  fields := #[]
  methods := #[k13m0, k13m1, k13m2]
  instanceTypes := #[]
  staticTypes := #[]
  resolved := Array.replicate 251 none
  statics := none }

def pool14 : Array CpInfo := pool [(1, .methodref 2 3), (0, .class_ 4), (0, .nameAndType 5 6), (0, u "java/util/AbstractCollection"), (0, u "<init>"), (0, u "()V"), (0, .fieldref 8 9), (0, .class_ 10), (0, .nameAndType 11 12), (0, u "java/util/AbstractList"), (0, u "modCount"), (0, u "I"), (64, .class_ 78), (0, u "java/util/AbstractList$Itr"), (3, .class_ 83), (0, u "java/util/AbstractList$ListItr"), (9, .class_ 94), (0, u "java/util/AbstractList$RandomAccessSubList"), (3, .class_ 99), (0, u "java/util/AbstractList$SubList"), (33, .class_ 134), (0, u "java/util/List"), (73, .class_ 209), (0, u "java/util/AbstractList$SubList$1"), (0, .class_ 211), (0, u "java/util/AbstractList$RandomAccessSpliterator")] 6

def k14c0 : Code := { maxStack := 2, maxLocals := 1, code := jdk_39_method_1_code, exceptionTable := #[], attributes := #[] }
def k14m0 : Method := { name := "<init>", desc := "()V", sig := { parameters := [], returnType := none }, accessFlags := 4, code := some k14c0 }
/-- java/util/AbstractList -/
def k14 : Class := { plain "java/util/AbstractList" (some 11) with
  accessFlags := 1057
  interfaces := #[13]
  cf := some (fileOf pool14 8 #[.nestMembers #[93, 98, 208, 210, 82, 77]] #[{ accessFlags := 4, nameIndex := 5, descriptorIndex := 6, attributes := #[] }] 1057 2 #[133] #[{ accessFlags := 132, nameIndex := 11, descriptorIndex := 12, attributes := #[] }])
  fields := #[{ name := "modCount", type := .int, accessFlags := 132, slot := 0, constantValue := 0 }]
  methods := #[k14m0]
  instanceTypes := #[.int]
  staticTypes := #[]
  resolved := Array.replicate 218 none
  statics := none }

def pool15 : Array CpInfo := pool [(1, .class_ 2), (0, u "java/util/RandomAccess"), (0, .class_ 4), (0, u "java/lang/Object")] 2

/-- java/util/RandomAccess -/
def k15 : Class := { plain "java/util/RandomAccess" (some 0) with
  accessFlags := 1537
  interfaces := #[]
  cf := some (fileOf pool15 1 #[] #[] 1537 3 #[] #[])
  fields := #[]
  methods := #[]
  instanceTypes := #[]
  staticTypes := #[]
  resolved := Array.replicate 7 none
  statics := none }

def pool16 : Array CpInfo := pool [(1, .class_ 2), (0, u "java/lang/Cloneable"), (0, .class_ 4), (0, u "java/lang/Object")] 2

/-- java/lang/Cloneable -/
def k16 : Class := { plain "java/lang/Cloneable" (some 0) with
  accessFlags := 1537
  interfaces := #[]
  cf := some (fileOf pool16 1 #[] #[] 1537 3 #[] #[])
  fields := #[]
  methods := #[]
  instanceTypes := #[]
  staticTypes := #[]
  resolved := Array.replicate 7 none
  statics := none }

def pool17 : Array CpInfo := pool [(1, .methodref 2 3), (0, .class_ 4), (0, .nameAndType 5 6), (0, u "java/util/AbstractList"), (0, u "<init>"), (0, u "()V"), (0, .class_ 8), (0, u "java/lang/Object"), (0, .fieldref 10 11), (0, .class_ 12), (0, .nameAndType 13 14), (0, u "java/util/ArrayList"), (0, u "elementData"), (0, u "[Ljava/lang/Object;"), (2, u "EMPTY_ELEMENTDATA"), (21, .fieldref 10 40), (0, .nameAndType 41 14), (0, u "DEFAULTCAPACITY_EMPTY_ELEMENTDATA"), (5, u "()[Ljava/lang/Object;"), (0, .fieldref 10 49), (0, .nameAndType 50 51), (0, u "size"), (0, u "I"), (11, .fieldref 10 64), (0, .nameAndType 65 51), (0, u "modCount"), (3, .methodref 10 70), (0, .nameAndType 71 72), (0, u "grow"), (0, u "(I)[Ljava/lang/Object;"), (6, .methodref 80 81), (0, .class_ 82), (0, .nameAndType 83 84), (0, u "java/lang/Math"), (0, u "max"), (0, u "(II)I"), (11, u "(Ljava/lang/Object;)Z"), (21, .methodref 119 120), (0, .class_ 121), (0, .nameAndType 122 84), (0, u "java/util/Objects"), (0, u "checkIndex"), (0, .methodref 10 124), (0, .nameAndType 13 125), (0, u "(I)Ljava/lang/Object;"), (3, .methodref 10 130), (0, .nameAndType 71 47), (0, .methodref 10 132), (0, .nameAndType 133 134), (0, u "add"), (0, u "(Ljava/lang/Object;[Ljava/lang/Object;I)V"), (13, .class_ 149), (0, u "java/util/List"), (36, u "()I"), (75, .class_ 263), (0, u "java/util/ArrayList$ListItr"), (3, .class_ 268), (0, u "java/util/ArrayList$Itr"), (7, .class_ 277), (0, u "java/util/ArrayList$SubList"), (12, .class_ 291), (0, u "java/util/ArrayList$ArrayListSpliterator"), (37, .class_ 330), (0, u "java/util/RandomAccess"), (0, .class_ 332), (0, u "java/lang/Cloneable"), (0, .class_ 334), (0, u "java/io/Serializable"), (0, u "serialVersionUID"), (0, u "J"), (3, u "DEFAULT_CAPACITY"), (40, u "get"), (118, .class_ 501), (0, u "java/util/ArrayList$SubList$2"), (0, .class_ 503), (0, u "java/util/ArrayList$SubList$1")] 5

def k17c0 : Code := { maxStack := 2, maxLocals := 1, code := jdk_38_method_2_code, exceptionTable := #[], attributes := #[] }
def k17m0 : Method := { name := "<init>", desc := "()V", sig := { parameters := [], returnType := none }, accessFlags := 1, code := some k17c0 }
def k17c1 : Code := { maxStack := 4, maxLocals := 4, code := jdk_38_method_6_code, exceptionTable := #[], attributes := #[] }
def k17m1 : Method := { name := "grow", desc := "(I)[Ljava/lang/Object;", sig := { parameters := [.int], returnType := some (.array (.object "java/lang/Object")) }, accessFlags := 2, code := some k17c1 }
def k17c2 : Code := { maxStack := 3, maxLocals := 1, code := jdk_38_method_7_code, exceptionTable := #[], attributes := #[] }
def k17m2 : Method := { name := "grow", desc := "()[Ljava/lang/Object;", sig := { parameters := [], returnType := some (.array (.object "java/lang/Object")) }, accessFlags := 2, code := some k17c2 }
def k17c3 : Code := { maxStack := 1, maxLocals := 1, code := jdk_38_method_8_code, exceptionTable := #[], attributes := #[] }
def k17m3 : Method := { name := "size", desc := "()I", sig := { parameters := [], returnType := some .int }, accessFlags := 1, code := some k17c3 }
def k17c4 : Code := { maxStack := 2, maxLocals := 2, code := jdk_38_method_18_code, exceptionTable := #[], attributes := #[] }
def k17m4 : Method := { name := "elementData", desc := "(I)Ljava/lang/Object;", sig := { parameters := [.int], returnType := some (.object "java/lang/Object") }, accessFlags := 0, code := some k17c4 }
def k17c5 : Code := { maxStack := 2, maxLocals := 2, code := jdk_38_method_20_code, exceptionTable := #[], attributes := #[] }
def k17m5 : Method := { name := "get", desc := "(I)Ljava/lang/Object;", sig := { parameters := [.int], returnType := some (.object "java/lang/Object") }, accessFlags := 1, code := some k17c5 }
def k17c6 : Code := { maxStack := 3, maxLocals := 4, code := jdk_38_method_24_code, exceptionTable := #[], attributes := #[] }
def k17m6 : Method := { name := "add", desc := "(Ljava/lang/Object;[Ljava/lang/Object;I)V", sig := { parameters := [(.object "java/lang/Object"), (.array (.object "java/lang/Object")), .int], returnType := none }, accessFlags := 2, code := some k17c6 }
def k17c7 : Code := { maxStack := 4, maxLocals := 2, code := jdk_38_method_25_code, exceptionTable := #[], attributes := #[] }
def k17m7 : Method := { name := "add", desc := "(Ljava/lang/Object;)Z", sig := { parameters := [(.object "java/lang/Object")], returnType := some .boolean }, accessFlags := 1, code := some k17c7 }
/-- java/util/ArrayList -/
def k17 : Class := { plain "java/util/ArrayList" (some 14) with
  accessFlags := 33
  interfaces := #[13, 15, 16, 2]
  cf := some (fileOf pool17 10 #[.nestMembers #[290, 276, 500, 502, 262, 267]] #[{ accessFlags := 1, nameIndex := 5, descriptorIndex := 6, attributes := #[] }, { accessFlags := 2, nameIndex := 71, descriptorIndex := 72, attributes := #[] }, { accessFlags := 2, nameIndex := 71, descriptorIndex := 47, attributes := #[] }, { accessFlags := 1, nameIndex := 50, descriptorIndex := 186, attributes := #[] }, { accessFlags := 0, nameIndex := 13, descriptorIndex := 125, attributes := #[] }, { accessFlags := 1, nameIndex := 381, descriptorIndex := 125, attributes := #[] }, { accessFlags := 2, nameIndex := 133, descriptorIndex := 134, attributes := #[] }, { accessFlags := 1, nameIndex := 133, descriptorIndex := 96, attributes := #[] }] 33 2 #[148, 329, 331, 333] #[{ accessFlags := 26, nameIndex := 335, descriptorIndex := 336, attributes := #[] }, { accessFlags := 26, nameIndex := 340, descriptorIndex := 51, attributes := #[] }, { accessFlags := 26, nameIndex := 17, descriptorIndex := 14, attributes := #[] }, { accessFlags := 26, nameIndex := 41, descriptorIndex := 14, attributes := #[] }, { accessFlags := 128, nameIndex := 13, descriptorIndex := 14, attributes := #[] }, { accessFlags := 2, nameIndex := 50, descriptorIndex := 51, attributes := #[] }])
  fields := #[{ name := "serialVersionUID", type := .long, accessFlags := 26, slot := 0, constantValue := 0 }, { name := "DEFAULT_CAPACITY", type := .int, accessFlags := 26, slot := 1, constantValue := 0 }, { name := "EMPTY_ELEMENTDATA", type := (.array (.object "java/lang/Object")), accessFlags := 26, slot := 2, constantValue := 0 }, { name := "DEFAULTCAPACITY_EMPTY_ELEMENTDATA", type := (.array (.object "java/lang/Object")), accessFlags := 26, slot := 3, constantValue := 0 }, { name := "elementData", type := (.array (.object "java/lang/Object")), accessFlags := 128, slot := 1, constantValue := 0 }, { name := "size", type := .int, accessFlags := 2, slot := 2, constantValue := 0 }]
  methods := #[k17m0, k17m1, k17m2, k17m3, k17m4, k17m5, k17m6, k17m7]
  instanceTypes := #[.int, (.array (.object "java/lang/Object")), .int]
  staticTypes := #[.long, .int, (.array (.object "java/lang/Object")), (.array (.object "java/lang/Object"))]
  resolved := Array.replicate 509 none
  statics := some 1 }

def pool18 : Array CpInfo := pool [(1, .methodref 2 3), (0, .class_ 4), (0, .nameAndType 5 6), (0, u "java/lang/Object"), (0, u "<init>"), (0, u "()V"), (0, .fieldref 8 9), (0, .class_ 10), (0, .nameAndType 11 12), (0, u "com/example/axiomwright/axiomwright/cli/Timings"), (0, u "arguments"), (0, u "Ljava/util/List;"), (0, .fieldref 8 14), (0, .nameAndType 15 16), (0, u "err"), (0, u "Ljava/util/Optional;"), (0, .methodref 18 19), (0, .class_ 20), (0, .nameAndType 21 22), (0, u "java/util/Optional"), (0, u "empty"), (0, u "()Ljava/util/Optional;"), (0, .methodref 8 24), (0, .nameAndType 5 25), (0, u "(Ljava/util/List;Ljava/util/Optional;)V"), (32, .class_ 60), (1, u "com/example/axiomwright/axiomwright/cli/Timings$Phase"), (20, .class_ 83), (1, u "com/example/axiomwright/axiomwright/cli/Timings$Step"), (10, u "OPTION"), (0, u "Ljava/lang/String;"), (7, u "none"), (0, u "(Ljava/util/List;)Lcom/example/axiomwright/axiomwright/cli/Timings;"), (5, u "()Ljava/util/List;")] 61

def k18c0 : Code := { maxStack := 2, maxLocals := 3, code := prog_13_method_1_code, exceptionTable := #[], attributes := #[] }
def k18m0 : Method := { name := "<init>", desc := "(Ljava/util/List;Ljava/util/Optional;)V", sig := { parameters := [(.object "java/util/List"), (.object "java/util/Optional")], returnType := none }, accessFlags := 2, code := some k18c0 }
def k18c1 : Code := { maxStack := 4, maxLocals := 1, code := prog_13_method_2_code, exceptionTable := #[], attributes := #[] }
def k18m1 : Method := { name := "none", desc := "(Ljava/util/List;)Lcom/example/axiomwright/axiomwright/cli/Timings;", sig := { parameters := [(.object "java/util/List")], returnType := some (.object "com/example/axiomwright/axiomwright/cli/Timings") }, accessFlags := 8, code := some k18c1 }
def k18c2 : Code := { maxStack := 1, maxLocals := 1, code := prog_13_method_4_code, exceptionTable := #[], attributes := #[] }
def k18m2 : Method := { name := "arguments", desc := "()Ljava/util/List;", sig := { parameters := [], returnType := some (.object "java/util/List") }, accessFlags := 0, code := some k18c2 }
/-- com/example/axiomwright/axiomwright/cli/Timings -/
def k18 : Class := { plain "com/example/axiomwright/axiomwright/cli/Timings" (some 0) with
  accessFlags := 48
  interfaces := #[]
  cf := some (fileOf pool18 8 #[.nestMembers #[81, 58]] #[{ accessFlags := 2, nameIndex := 5, descriptorIndex := 25, attributes := #[] }, { accessFlags := 8, nameIndex := 103, descriptorIndex := 104, attributes := #[] }, { accessFlags := 0, nameIndex := 11, descriptorIndex := 110, attributes := #[] }] 48 2 #[] #[{ accessFlags := 24, nameIndex := 94, descriptorIndex := 95, attributes := #[] }, { accessFlags := 18, nameIndex := 11, descriptorIndex := 12, attributes := #[] }, { accessFlags := 18, nameIndex := 15, descriptorIndex := 16, attributes := #[] }])
  fields := #[{ name := "OPTION", type := (.object "java/lang/String"), accessFlags := 24, slot := 0, constantValue := 0 }, { name := "arguments", type := (.object "java/util/List"), accessFlags := 18, slot := 0, constantValue := 0 }, { name := "err", type := (.object "java/util/Optional"), accessFlags := 18, slot := 1, constantValue := 0 }]
  methods := #[k18m0, k18m1, k18m2]
  instanceTypes := #[(.object "java/util/List"), (.object "java/util/Optional")]
  staticTypes := #[(.object "java/lang/String")]
  resolved := Array.replicate 172 none
  statics := none }

def pool19 : Array CpInfo := pool [(1, .fieldref 2 3), (0, .class_ 4), (0, .nameAndType 5 6), (0, u "java/util/Optional"), (0, u "EMPTY"), (0, u "Ljava/util/Optional;"), (1, .class_ 10), (1, u "java/lang/Object"), (4, u "value"), (0, u "Ljava/lang/Object;"), (38, u "empty"), (0, u "()Ljava/util/Optional;")] 130

def k19c0 : Code := { maxStack := 1, maxLocals := 1, code := jdk_32_method_1_code, exceptionTable := #[], attributes := #[] }
def k19m0 : Method := { name := "empty", desc := "()Ljava/util/Optional;", sig := { parameters := [], returnType := some (.object "java/util/Optional") }, accessFlags := 9, code := some k19c0 }
/-- java/util/Optional -/
def k19 : Class := { plain "java/util/Optional" (some 0) with
  accessFlags := 49
  interfaces := #[]
  cf := some (fileOf pool19 2 #[] #[{ accessFlags := 9, nameIndex := 55, descriptorIndex := 56, attributes := #[] }] 49 8 #[] #[{ accessFlags := 26, nameIndex := 5, descriptorIndex := 6, attributes := #[] }, { accessFlags := 18, nameIndex := 15, descriptorIndex := 16, attributes := #[] }])
  fields := #[{ name := "EMPTY", type := (.object "java/util/Optional"), accessFlags := 26, slot := 0, constantValue := 0 }, { name := "value", type := (.object "java/lang/Object"), accessFlags := 18, slot := 0, constantValue := 0 }]
  methods := #[k19m0]
  instanceTypes := #[(.object "java/lang/Object")]
  staticTypes := #[(.object "java/util/Optional")]
  resolved := Array.replicate 187 none
  statics := some 2 }

def pool20 : Array CpInfo := pool [(1, .class_ 2), (0, u "java/lang/Math"), (1, .class_ 6), (1, u "java/lang/Object"), (0, u "<init>"), (0, u "()V"), (89, .class_ 100), (1, u "java/lang/Math$RandomNumberGeneratorHolder"), (71, u "negativeZeroFloatBits"), (0, u "J"), (2, u "negativeZeroDoubleBits"), (21, u "max"), (46, u "$assertionsDisabled"), (0, u "Z"), (88, u "(II)I"), (2, u "twoToTheDoubleScaleDown"), (0, u "D"), (4, u "twoToTheDoubleScaleUp"), (9, u "E"), (3, u "PI"), (2, u "TAU"), (2, u "DEGREES_TO_RADIANS"), (0, u "RADIANS_TO_DEGREES")] 94

def k20m0 : Method := { name := "<init>", desc := "()V", sig := { parameters := [], returnType := none }, accessFlags := 2, code := none }
def k20c1 : Code := { maxStack := 2, maxLocals := 2, code := jdk_29_method_65_code, exceptionTable := #[], attributes := #[] }
def k20m1 : Method := { name := "max", desc := "(II)I", sig := { parameters := [.int, .int], returnType := some .int }, accessFlags := 9, code := some k20c1 }
/-- java/lang/Math -/
def k20 : Class := { plain "java/lang/Math" (some 0) with
  accessFlags := 49
  interfaces := #[]
  cf := some (fileOf pool20 1 #[.nestMembers #[98]] #[{ accessFlags := 2, nameIndex := 7, descriptorIndex := 8, attributes := #[] }, { accessFlags := 9, nameIndex := 198, descriptorIndex := 335, attributes := #[] }] 49 4 #[] #[{ accessFlags := 25, nameIndex := 354, descriptorIndex := 339, attributes := #[] }, { accessFlags := 25, nameIndex := 358, descriptorIndex := 339, attributes := #[] }, { accessFlags := 25, nameIndex := 361, descriptorIndex := 339, attributes := #[] }, { accessFlags := 26, nameIndex := 364, descriptorIndex := 339, attributes := #[] }, { accessFlags := 26, nameIndex := 365, descriptorIndex := 339, attributes := #[] }, { accessFlags := 26, nameIndex := 172, descriptorIndex := 173, attributes := #[] }, { accessFlags := 26, nameIndex := 176, descriptorIndex := 173, attributes := #[] }, { accessFlags := 8, nameIndex := 344, descriptorIndex := 339, attributes := #[] }, { accessFlags := 8, nameIndex := 338, descriptorIndex := 339, attributes := #[] }, { accessFlags := 4120, nameIndex := 245, descriptorIndex := 246, attributes := #[] }])
  fields := #[{ name := "E", type := .double, accessFlags := 25, slot := 0, constantValue := 0 }, { name := "PI", type := .double, accessFlags := 25, slot := 1, constantValue := 0 }, { name := "TAU", type := .double, accessFlags := 25, slot := 2, constantValue := 0 }, { name := "DEGREES_TO_RADIANS", type := .double, accessFlags := 26, slot := 3, constantValue := 0 }, { name := "RADIANS_TO_DEGREES", type := .double, accessFlags := 26, slot := 4, constantValue := 0 }, { name := "negativeZeroFloatBits", type := .long, accessFlags := 26, slot := 5, constantValue := 0 }, { name := "negativeZeroDoubleBits", type := .long, accessFlags := 26, slot := 6, constantValue := 0 }, { name := "twoToTheDoubleScaleUp", type := .double, accessFlags := 8, slot := 7, constantValue := 0 }, { name := "twoToTheDoubleScaleDown", type := .double, accessFlags := 8, slot := 8, constantValue := 0 }, { name := "$assertionsDisabled", type := .boolean, accessFlags := 4120, slot := 9, constantValue := 0 }]
  methods := #[k20m0, k20m1]
  instanceTypes := #[]
  staticTypes := #[.double, .double, .double, .double, .double, .long, .long, .double, .double, .boolean]
  resolved := Array.replicate 460 none
  statics := none }

def pool21 : Array CpInfo := pool [(2, .class_ 4), (1, u "java/lang/Object"), (0, u "<init>"), (0, u "()V"), (35, .class_ 44), (1, u "java/util/Objects"), (60, .methodref 106 107), (0, .class_ 108), (0, .nameAndType 109 110), (0, u "jdk/internal/util/Preconditions"), (0, u "checkIndex"), (0, u "(IILjava/util/function/BiFunction;)I"), (60, u "(II)I")] 12

def k21m0 : Method := { name := "<init>", desc := "()V", sig := { parameters := [], returnType := none }, accessFlags := 2, code := none }
def k21c1 : Code := { maxStack := 3, maxLocals := 2, code := jdk_31_method_17_code, exceptionTable := #[], attributes := #[] }
def k21m1 : Method := { name := "checkIndex", desc := "(II)I", sig := { parameters := [.int, .int], returnType := some .int }, accessFlags := 9, code := some k21c1 }
/-- java/util/Objects -/
def k21 : Class := { plain "java/util/Objects" (some 0) with
  accessFlags := 49
  interfaces := #[]
  cf := some (fileOf pool21 42 #[] #[{ accessFlags := 2, nameIndex := 5, descriptorIndex := 6, attributes := #[] }, { accessFlags := 9, nameIndex := 109, descriptorIndex := 171, attributes := #[] }] 49 2 #[] #[])
  fields := #[]
  methods := #[k21m0, k21m1]
  instanceTypes := #[]
  staticTypes := #[]
  resolved := Array.replicate 184 none
  statics := none }

def pool22 : Array CpInfo := pool [(2, .class_ 4), (1, u "java/lang/Object"), (0, u "<init>"), (0, u "()V"), (17, .class_ 26), (1, u "jdk/internal/util/Preconditions"), (6, u "checkIndex"), (21, .class_ 56), (0, u "jdk/internal/util/Preconditions$4"), (57, .class_ 115), (0, u "jdk/internal/util/Preconditions$1"), (7, u "SIOOBE_FORMATTER"), (0, u "Ljava/util/function/BiFunction;"), (0, .class_ 126), (0, u "jdk/internal/util/Preconditions$2"), (3, u "AIOOBE_FORMATTER"), (0, .class_ 132), (0, u "jdk/internal/util/Preconditions$3"), (3, u "IOOBE_FORMATTER"), (41, u "(IILjava/util/function/BiFunction;)I")] 15

def k22m0 : Method := { name := "<init>", desc := "()V", sig := { parameters := [], returnType := none }, accessFlags := 1, code := none }
def k22c1 : Code := { maxStack := 3, maxLocals := 3, code := jdk_41_method_11_code, exceptionTable := #[], attributes := #[] }
def k22m1 : Method := { name := "checkIndex", desc := "(IILjava/util/function/BiFunction;)I", sig := { parameters := [.int, .int, (.object "java/util/function/BiFunction")], returnType := some .int }, accessFlags := 9, code := some k22c1 }
/-- jdk/internal/util/Preconditions -/
def k22 : Class := { plain "jdk/internal/util/Preconditions" (some 0) with
  accessFlags := 33
  interfaces := #[]
  cf := some (fileOf pool22 24 #[.nestMembers #[55, 131, 125, 114]] #[{ accessFlags := 1, nameIndex := 5, descriptorIndex := 6, attributes := #[] }, { accessFlags := 9, nameIndex := 33, descriptorIndex := 178, attributes := #[] }] 33 2 #[] #[{ accessFlags := 25, nameIndex := 123, descriptorIndex := 124, attributes := #[] }, { accessFlags := 25, nameIndex := 130, descriptorIndex := 124, attributes := #[] }, { accessFlags := 25, nameIndex := 136, descriptorIndex := 124, attributes := #[] }])
  fields := #[{ name := "SIOOBE_FORMATTER", type := (.object "java/util/function/BiFunction"), accessFlags := 25, slot := 0, constantValue := 0 }, { name := "AIOOBE_FORMATTER", type := (.object "java/util/function/BiFunction"), accessFlags := 25, slot := 1, constantValue := 0 }, { name := "IOOBE_FORMATTER", type := (.object "java/util/function/BiFunction"), accessFlags := 25, slot := 2, constantValue := 0 }]
  methods := #[k22m0, k22m1]
  instanceTypes := #[]
  staticTypes := #[(.object "java/util/function/BiFunction"), (.object "java/util/function/BiFunction"), (.object "java/util/function/BiFunction")]
  resolved := Array.replicate 194 none
  statics := some 3 }

def pool23 : Array CpInfo := pool [(4, .class_ 6), (1, u "java/lang/Object"), (0, u "<init>"), (0, u "()V"), (5, .class_ 16), (1, u "java/lang/StringLatin1"), (104, u "$assertionsDisabled"), (0, u "Z"), (98, .class_ 223), (1, u "java/lang/StringLatin1$LinesSpliterator"), (166, .class_ 391), (0, u "java/lang/StringLatin1$CharsSpliterator")] 3

def k23m0 : Method := { name := "<init>", desc := "()V", sig := { parameters := [], returnType := none }, accessFlags := 0, code := none }
/-- java/lang/StringLatin1 -/
def k23 : Class := { plain "java/lang/StringLatin1" (some 0) with
  accessFlags := 48
  interfaces := #[]
  cf := some (fileOf pool23 14 #[.nestMembers #[390, 221]] #[{ accessFlags := 0, nameIndex := 7, descriptorIndex := 8, attributes := #[] }] 48 4 #[] #[{ accessFlags := 4120, nameIndex := 121, descriptorIndex := 122, attributes := #[] }])
  fields := #[{ name := "$assertionsDisabled", type := .boolean, accessFlags := 4120, slot := 0, constantValue := 0 }]
  methods := #[k23m0]
  instanceTypes := #[]
  staticTypes := #[.boolean]
  resolved := Array.replicate 395 none
  statics := none }

def pool24 : Array CpInfo := pool [(9, u "<init>"), (6, .class_ 18), (1, u "java/lang/Object"), (0, u "()V"), (1, .class_ 23), (1, u "jdk/internal/util/ArraysSupport"), (0, u "LOG2_ARRAY_LONG_INDEX_SCALE"), (0, u "I"), (2, u "U"), (0, u "Ljdk/internal/misc/Unsafe;"), (8, u "BIG_ENDIAN"), (0, u "Z"), (8, u "LOG2_BYTE_BIT_SIZE"), (4, u "LOG2_ARRAY_INT_INDEX_SCALE"), (54, u "JLA"), (0, u "Ljdk/internal/access/JavaLangAccess;"), (11, u "LOG2_ARRAY_BOOLEAN_INDEX_SCALE"), (9, u "LOG2_ARRAY_BYTE_INDEX_SCALE"), (5, u "LOG2_ARRAY_CHAR_INDEX_SCALE"), (5, u "LOG2_ARRAY_SHORT_INDEX_SCALE"), (18, u "LOG2_ARRAY_FLOAT_INDEX_SCALE"), (24, u "LOG2_ARRAY_DOUBLE_INDEX_SCALE"), (89, u "T_BOOLEAN"), (2, u "T_CHAR"), (1, u "T_FLOAT"), (1, u "T_DOUBLE"), (1, u "T_BYTE"), (1, u "T_SHORT"), (1, u "T_INT"), (1, u "T_LONG"), (1, u "SOFT_MAX_ARRAY_LENGTH")] 83

def k24m0 : Method := { name := "<init>", desc := "()V", sig := { parameters := [], returnType := none }, accessFlags := 2, code := none }
/-- jdk/internal/util/ArraysSupport -/
def k24 : Class := { plain "jdk/internal/util/ArraysSupport" (some 0) with
  accessFlags := 33
  interfaces := #[]
  cf := some (fileOf pool24 21 #[] #[{ accessFlags := 2, nameIndex := 9, descriptorIndex := 19, attributes := #[] }] 33 16 #[] #[{ accessFlags := 24, nameIndex := 28, descriptorIndex := 29, attributes := #[] }, { accessFlags := 26, nameIndex := 38, descriptorIndex := 39, attributes := #[] }, { accessFlags := 25, nameIndex := 121, descriptorIndex := 25, attributes := #[] }, { accessFlags := 25, nameIndex := 131, descriptorIndex := 25, attributes := #[] }, { accessFlags := 25, nameIndex := 137, descriptorIndex := 25, attributes := #[] }, { accessFlags := 25, nameIndex := 143, descriptorIndex := 25, attributes := #[] }, { accessFlags := 25, nameIndex := 53, descriptorIndex := 25, attributes := #[] }, { accessFlags := 25, nameIndex := 24, descriptorIndex := 25, attributes := #[] }, { accessFlags := 25, nameIndex := 162, descriptorIndex := 25, attributes := #[] }, { accessFlags := 25, nameIndex := 187, descriptorIndex := 25, attributes := #[] }, { accessFlags := 26, nameIndex := 48, descriptorIndex := 25, attributes := #[] }, { accessFlags := 25, nameIndex := 277, descriptorIndex := 25, attributes := #[] }, { accessFlags := 25, nameIndex := 280, descriptorIndex := 25, attributes := #[] }, { accessFlags := 25, nameIndex := 282, descriptorIndex := 25, attributes := #[] }, { accessFlags := 25, nameIndex := 284, descriptorIndex := 25, attributes := #[] }, { accessFlags := 25, nameIndex := 286, descriptorIndex := 25, attributes := #[] }, { accessFlags := 25, nameIndex := 288, descriptorIndex := 25, attributes := #[] }, { accessFlags := 25, nameIndex := 290, descriptorIndex := 25, attributes := #[] }, { accessFlags := 25, nameIndex := 292, descriptorIndex := 25, attributes := #[] }, { accessFlags := 26, nameIndex := 108, descriptorIndex := 109, attributes := #[] }, { accessFlags := 25, nameIndex := 294, descriptorIndex := 25, attributes := #[] }])
  fields := #[{ name := "U", type := (.object "jdk/internal/misc/Unsafe"), accessFlags := 24, slot := 0, constantValue := 0 }, { name := "BIG_ENDIAN", type := .boolean, accessFlags := 26, slot := 1, constantValue := 0 }, { name := "LOG2_ARRAY_BOOLEAN_INDEX_SCALE", type := .int, accessFlags := 25, slot := 2, constantValue := 0 }, { name := "LOG2_ARRAY_BYTE_INDEX_SCALE", type := .int, accessFlags := 25, slot := 3, constantValue := 0 }, { name := "LOG2_ARRAY_CHAR_INDEX_SCALE", type := .int, accessFlags := 25, slot := 4, constantValue := 0 }, { name := "LOG2_ARRAY_SHORT_INDEX_SCALE", type := .int, accessFlags := 25, slot := 5, constantValue := 0 }, { name := "LOG2_ARRAY_INT_INDEX_SCALE", type := .int, accessFlags := 25, slot := 6, constantValue := 0 }, { name := "LOG2_ARRAY_LONG_INDEX_SCALE", type := .int, accessFlags := 25, slot := 7, constantValue := 0 }, { name := "LOG2_ARRAY_FLOAT_INDEX_SCALE", type := .int, accessFlags := 25, slot := 8, constantValue := 0 }, { name := "LOG2_ARRAY_DOUBLE_INDEX_SCALE", type := .int, accessFlags := 25, slot := 9, constantValue := 0 }, { name := "LOG2_BYTE_BIT_SIZE", type := .int, accessFlags := 26, slot := 10, constantValue := 0 }, { name := "T_BOOLEAN", type := .int, accessFlags := 25, slot := 11, constantValue := 0 }, { name := "T_CHAR", type := .int, accessFlags := 25, slot := 12, constantValue := 0 }, { name := "T_FLOAT", type := .int, accessFlags := 25, slot := 13, constantValue := 0 }, { name := "T_DOUBLE", type := .int, accessFlags := 25, slot := 14, constantValue := 0 }, { name := "T_BYTE", type := .int, accessFlags := 25, slot := 15, constantValue := 0 }, { name := "T_SHORT", type := .int, accessFlags := 25, slot := 16, constantValue := 0 }, { name := "T_INT", type := .int, accessFlags := 25, slot := 17, constantValue := 0 }, { name := "T_LONG", type := .int, accessFlags := 25, slot := 18, constantValue := 0 }, { name := "JLA", type := (.object "jdk/internal/access/JavaLangAccess"), accessFlags := 26, slot := 19, constantValue := 0 }, { name := "SOFT_MAX_ARRAY_LENGTH", type := .int, accessFlags := 25, slot := 20, constantValue := 0 }]
  methods := #[k24m0]
  instanceTypes := #[]
  staticTypes := #[(.object "jdk/internal/misc/Unsafe"), .boolean, .int, .int, .int, .int, .int, .int, .int, .int, .int, .int, .int, .int, .int, .int, .int, .int, .int, (.object "jdk/internal/access/JavaLangAccess"), .int]
  resolved := Array.replicate 378 none
  statics := none }

/-- the primitive byte -/
def k25 : Class := { plain "byte" none with kind := .primitive 'B', accessFlags := 0x411 }
/-- [B -/
def k26 : Class := { plain "[B" (some 0) with kind := .array 25 .byte, interfaces := #[16, 2], accessFlags := 1041 }

/-- the primitive char -/
def k27 : Class := { plain "char" none with kind := .primitive 'C', accessFlags := 0x411 }
/-- [C -/
def k28 : Class := { plain "[C" (some 0) with kind := .array 27 .char, interfaces := #[16, 2], accessFlags := 1041 }

/-- the primitive int -/
def k29 : Class := { plain "int" none with kind := .primitive 'I', accessFlags := 0x411 }
/-- [I -/
def k30 : Class := { plain "[I" (some 0) with kind := .array 29 .int, interfaces := #[16, 2], accessFlags := 1041 }

/-- [Ljava/lang/Object; -/
def k31 : Class := { plain "[Ljava/lang/Object;" (some 0) with kind := .array 0 (.object "java/lang/Object"), interfaces := #[16, 2], accessFlags := 1041 }

def heap : Heap := #[{ cls := 7, slots := #[.long 0, .int 1, .null, .int 0, .null, .int 0, .int 0], vm := .statics 7 },
  { cls := 17, slots := #[.long 0, .int 0, .ref 4, .ref 5], vm := .statics 17 },
  { cls := 19, slots := #[.ref 6], vm := .statics 19 },
  { cls := 22, slots := #[.null, .null, .null], vm := .statics 22 },
  { cls := 31, slots := #[], vm := .none },
  { cls := 31, slots := #[], vm := .none },
  { cls := 19, slots := #[.null], vm := .none }]
def classes : Array Class := #[k0, k1, k2, k3, k4, k5, k6, k7, k8, k9, k10, k11, k12, k13, k14, k15, k16, k17, k18, k19, k20, k21, k22, k23, k24, k25, k26, k27, k28, k29, k30, k31]
def interned : List (Array UInt16 × Addr) := []
def slotsUsed : Nat := 16
def theMethod : MethodId := ⟨1, 2⟩
def args0 : Array Value := #[.int 2, .int 3, .int 4, .int 5]
def aboutOver (below : List Frame) : State where
  vm := { classes := classes, interned := interned.toArray }
  heap := heap
  slotsUsed := slotsUsed
  threads := #[{ frames := .invoking theMethod args0 :: below }]
def below0 : List Frame := [.native { method := ⟨0, 0⟩, args := #[] }]
def about1 : State := aboutOver below0
def p0 : Program := .bare "" "" ""
def e0 : Env := launch0.env 0 0 0
theorem w_frames : about1.frames = Frame.invoking theMethod args0 :: below0 := rfl
set_option maxRecDepth 65536 in
theorem w_args : argsFit about1.vm theMethod args0 = true := by decide +kernel
set_option maxRecDepth 65536 in
theorem w_heap : heapFits about1 = true := by decide +kernel
set_option maxRecDepth 65536 in
theorem w_runnable : about1.curStatus? = some .runnable := by decide +kernel
set_option maxRecDepth 65536 in
theorem w_alone : about1.alone = true := by decide +kernel
set_option maxRecDepth 65536 in
theorem w_named : about1.methodNamed? x = some theMethod := by decide +kernel
set_option maxRecDepth 65536 in
theorem w_hears : about1.hears theMethod below0 = true := by decide +kernel
set_option maxRecDepth 65536 in
theorem w_ripe : about1.ripe theMethod args0 below0 = true := by decide +kernel
theorem w_running : about1.status = .running := rfl
set_option maxRecDepth 65536 in
theorem w_room : about1.hasRoom e0.platform room_1 = true :=
  launch0.hasRoom_least _ room_1 (by decide +kernel) (by decide +kernel) (by decide +kernel) (by decide +kernel) (by decide +kernel) (by decide +kernel)
theorem allAtoms_all (ts : List Jvm.Cond) (a : Array Jvm.Value) (st : Jvm.State) : (allAtoms ts).before a st = ts.all (fun c => c.before a st) := by
  induction ts with
  | nil => rfl
  | cons c t ih =>
    show (Jvm.Cond.and c (allAtoms t)).before a st = _
    rw [Jvm.Cond.before_and, ih, List.all_cons]
def words1 : List Jvm.Cond := Jvm.Cond.code x code maxLocals ret :: tables_1
/-- a 'code' word, met by the world's own term for the bytes: nothing is compared byte by byte -/
theorem code_word {y : MethodName} {bytes : ByteArray} {mx : Nat} {rt : Option FieldType} {a : Array Value} {s : State} {m : MethodId} {meth : Method} {c : Code} (h1 : s.methodNamed? y = some m) (h2 : s.vm.method? m = some meth) (h3 : meth.code = some c) (h4 : c.code = bytes)
    (h5 : (c.maxLocals == mx && c.exceptionTable.isEmpty && decide (c.maxStack ≤ mostOperands) && decide (meth.sig.returnType = rt) && !meth.locks && decide (parseMethodDescriptor y.desc = some meth.sig)) = true) : (Jvm.Cond.code y bytes mx rt).before a s = true := by
  simp only [Bool.and_eq_true, beq_iff_eq, Bool.not_eq_true', decide_eq_true_eq] at h5
  obtain ⟨⟨⟨⟨⟨g1, g2⟩, g3⟩, g4⟩, g5⟩, g6⟩ := h5
  simp [Cond.before, Cond.holds, Cond.value, h1, h2, h3, h4, g1, g2, g3, g4, g5, g6]
def isCode : Jvm.Cond → Bool
  | .code _ _ _ _ => true
  | _ => false
theorem all_split {L : List Jvm.Cond} {P : Jvm.Cond → Bool} (h1 : L.all (fun c => isCode c || P c) = true) (h2 : ∀ c ∈ L.filter isCode, P c = true) : L.all P = true := by
  refine List.all_eq_true.mpr fun c hc => ?_
  have h := List.all_eq_true.mp h1 c hc
  rcases Bool.eq_false_or_eq_true (isCode c) with hi | hi
  · exact h2 c (List.mem_filter.mpr ⟨hc, hi⟩)
  · simpa [hi] using h
set_option maxRecDepth 65536 in
theorem w_c0 : (Jvm.Cond.code x code maxLocals ret).before args0 about1 = true := code_word (m := ⟨1, 2⟩) (meth := k1m2) (c := k1c2) (by decide +kernel) rfl rfl rfl (by decide +kernel)
set_option maxRecDepth 65536 in
theorem w_c1 : (Jvm.Cond.code ({ cls := "com/example/axiomwright/axiomwright/cli/TimingsNonePinLaw", name := "element", desc := "(I)Ljava/lang/String;" } : Jvm.MethodName) method_2_code (5 : Nat) (Option.some (Jvm.ClassFile.FieldType.object "java/lang/String"))).before args0 about1 = true := code_word (m := ⟨1, 1⟩) (meth := k1m1) (c := k1c1) (by decide +kernel) rfl rfl rfl (by decide +kernel)
set_option maxRecDepth 65536 in
theorem w_c2 : (Jvm.Cond.code ({ cls := "java/lang/String", name := "<init>", desc := "([C)V" } : Jvm.MethodName) jdk_42_method_3_code (2 : Nat) (Option.none : Option Jvm.ClassFile.FieldType)).before args0 about1 = true := code_word (m := ⟨7, 1⟩) (meth := k7m1) (c := k7c1) (by decide +kernel) rfl rfl rfl (by decide +kernel)
set_option maxRecDepth 65536 in
theorem w_c3 : (Jvm.Cond.code ({ cls := "java/lang/String", name := "<init>", desc := "([CIILjava/lang/Void;)V" } : Jvm.MethodName) jdk_42_method_149_code (6 : Nat) (Option.none : Option Jvm.ClassFile.FieldType)).before args0 about1 = true := code_word (m := ⟨7, 3⟩) (meth := k7m3) (c := k7c3) (by decide +kernel) rfl rfl rfl (by decide +kernel)
set_option maxRecDepth 65536 in
theorem w_c4 : (Jvm.Cond.code ({ cls := "java/lang/Object", name := "<init>", desc := "()V" } : Jvm.MethodName) object_method_1_code (1 : Nat) (Option.none : Option Jvm.ClassFile.FieldType)).before args0 about1 = true := code_word (m := ⟨0, 0⟩) (meth := k0m0) (c := k0c0) (by decide +kernel) rfl rfl rfl (by decide +kernel)
set_option maxRecDepth 65536 in
theorem w_c5 : (Jvm.Cond.code ({ cls := "java/lang/StringUTF16", name := "compress", desc := "([CII)[B" } : Jvm.MethodName) jdk_52_method_16_code (6 : Nat) (Option.some (Jvm.ClassFile.FieldType.array Jvm.ClassFile.FieldType.byte))).before args0 about1 = true := code_word (m := ⟨8, 2⟩) (meth := k8m2) (c := k8c2) (by decide +kernel) rfl rfl rfl (by decide +kernel)
set_option maxRecDepth 65536 in
theorem w_c6 : (Jvm.Cond.code ({ cls := "java/lang/StringUTF16", name := "compress", desc := "([CI[BII)I" } : Jvm.MethodName) jdk_52_method_21_code (7 : Nat) (Option.some Jvm.ClassFile.FieldType.int)).before args0 about1 = true := code_word (m := ⟨8, 3⟩) (meth := k8m3) (c := k8c3) (by decide +kernel) rfl rfl rfl (by decide +kernel)
set_option maxRecDepth 65536 in
theorem w_c7 : (Jvm.Cond.code ({ cls := "java/lang/StringUTF16", name := "coderFromArrayLen", desc := "([BI)B" } : Jvm.MethodName) jdk_52_method_15_code (2 : Nat) (Option.some Jvm.ClassFile.FieldType.byte)).before args0 about1 = true := code_word (m := ⟨8, 1⟩) (meth := k8m1) (c := k8c1) (by decide +kernel) rfl rfl rfl (by decide +kernel)
set_option maxRecDepth 65536 in
theorem w_c8 : (Jvm.Cond.code ({ cls := "java/util/ArrayList", name := "<init>", desc := "()V" } : Jvm.MethodName) jdk_38_method_2_code (1 : Nat) (Option.none : Option Jvm.ClassFile.FieldType)).before args0 about1 = true := code_word (m := ⟨17, 0⟩) (meth := k17m0) (c := k17c0) (by decide +kernel) rfl rfl rfl (by decide +kernel)
set_option maxRecDepth 65536 in
theorem w_c9 : (Jvm.Cond.code ({ cls := "java/util/AbstractList", name := "<init>", desc := "()V" } : Jvm.MethodName) jdk_39_method_1_code (1 : Nat) (Option.none : Option Jvm.ClassFile.FieldType)).before args0 about1 = true := code_word (m := ⟨14, 0⟩) (meth := k14m0) (c := k14c0) (by decide +kernel) rfl rfl rfl (by decide +kernel)
set_option maxRecDepth 65536 in
theorem w_c10 : (Jvm.Cond.code ({ cls := "java/util/AbstractCollection", name := "<init>", desc := "()V" } : Jvm.MethodName) jdk_22_method_1_code (1 : Nat) (Option.none : Option Jvm.ClassFile.FieldType)).before args0 about1 = true := code_word (m := ⟨11, 0⟩) (meth := k11m0) (c := k11c0) (by decide +kernel) rfl rfl rfl (by decide +kernel)
set_option maxRecDepth 65536 in
theorem w_c11 : (Jvm.Cond.code ({ cls := "com/example/axiomwright/axiomwright/cli/Timings", name := "none", desc := "(Ljava/util/List;)Lcom/example/axiomwright/axiomwright/cli/Timings;" } : Jvm.MethodName) prog_13_method_2_code (1 : Nat) (Option.some (Jvm.ClassFile.FieldType.object "com/example/axiomwright/axiomwright/cli/Timings"))).before args0 about1 = true := code_word (m := ⟨18, 1⟩) (meth := k18m1) (c := k18c1) (by decide +kernel) rfl rfl rfl (by decide +kernel)
set_option maxRecDepth 65536 in
theorem w_c12 : (Jvm.Cond.code ({ cls := "java/util/Optional", name := "empty", desc := "()Ljava/util/Optional;" } : Jvm.MethodName) jdk_32_method_1_code (1 : Nat) (Option.some (Jvm.ClassFile.FieldType.object "java/util/Optional"))).before args0 about1 = true := code_word (m := ⟨19, 0⟩) (meth := k19m0) (c := k19c0) (by decide +kernel) rfl rfl rfl (by decide +kernel)
set_option maxRecDepth 65536 in
theorem w_c13 : (Jvm.Cond.code ({ cls := "com/example/axiomwright/axiomwright/cli/Timings", name := "<init>", desc := "(Ljava/util/List;Ljava/util/Optional;)V" } : Jvm.MethodName) prog_13_method_1_code (3 : Nat) (Option.none : Option Jvm.ClassFile.FieldType)).before args0 about1 = true := code_word (m := ⟨18, 0⟩) (meth := k18m0) (c := k18c0) (by decide +kernel) rfl rfl rfl (by decide +kernel)
set_option maxRecDepth 65536 in
theorem w_c14 : (Jvm.Cond.code ({ cls := "com/example/axiomwright/axiomwright/cli/Timings", name := "arguments", desc := "()Ljava/util/List;" } : Jvm.MethodName) prog_13_method_4_code (1 : Nat) (Option.some (Jvm.ClassFile.FieldType.object "java/util/List"))).before args0 about1 = true := code_word (m := ⟨18, 2⟩) (meth := k18m2) (c := k18c2) (by decide +kernel) rfl rfl rfl (by decide +kernel)
set_option maxRecDepth 65536 in
theorem w_c15 : (Jvm.Cond.code ({ cls := "java/util/ArrayList", name := "size", desc := "()I" } : Jvm.MethodName) jdk_38_method_8_code (1 : Nat) (Option.some Jvm.ClassFile.FieldType.int)).before args0 about1 = true := code_word (m := ⟨17, 3⟩) (meth := k17m3) (c := k17c3) (by decide +kernel) rfl rfl rfl (by decide +kernel)
set_option maxRecDepth 65536 in
theorem w_c16 : (Jvm.Cond.code ({ cls := "java/util/ArrayList", name := "add", desc := "(Ljava/lang/Object;)Z" } : Jvm.MethodName) jdk_38_method_25_code (2 : Nat) (Option.some Jvm.ClassFile.FieldType.boolean)).before args0 about1 = true := code_word (m := ⟨17, 7⟩) (meth := k17m7) (c := k17c7) (by decide +kernel) rfl rfl rfl (by decide +kernel)
set_option maxRecDepth 65536 in
theorem w_c17 : (Jvm.Cond.code ({ cls := "java/util/ArrayList", name := "add", desc := "(Ljava/lang/Object;[Ljava/lang/Object;I)V" } : Jvm.MethodName) jdk_38_method_24_code (4 : Nat) (Option.none : Option Jvm.ClassFile.FieldType)).before args0 about1 = true := code_word (m := ⟨17, 6⟩) (meth := k17m6) (c := k17c6) (by decide +kernel) rfl rfl rfl (by decide +kernel)
set_option maxRecDepth 65536 in
theorem w_c18 : (Jvm.Cond.code ({ cls := "java/util/ArrayList", name := "grow", desc := "()[Ljava/lang/Object;" } : Jvm.MethodName) jdk_38_method_7_code (1 : Nat) (Option.some (Jvm.ClassFile.FieldType.array (Jvm.ClassFile.FieldType.object "java/lang/Object")))).before args0 about1 = true := code_word (m := ⟨17, 2⟩) (meth := k17m2) (c := k17c2) (by decide +kernel) rfl rfl rfl (by decide +kernel)
set_option maxRecDepth 65536 in
theorem w_c19 : (Jvm.Cond.code ({ cls := "java/util/ArrayList", name := "grow", desc := "(I)[Ljava/lang/Object;" } : Jvm.MethodName) jdk_38_method_6_code (4 : Nat) (Option.some (Jvm.ClassFile.FieldType.array (Jvm.ClassFile.FieldType.object "java/lang/Object")))).before args0 about1 = true := code_word (m := ⟨17, 1⟩) (meth := k17m1) (c := k17c1) (by decide +kernel) rfl rfl rfl (by decide +kernel)
set_option maxRecDepth 65536 in
theorem w_c20 : (Jvm.Cond.code ({ cls := "java/lang/Math", name := "max", desc := "(II)I" } : Jvm.MethodName) jdk_29_method_65_code (2 : Nat) (Option.some Jvm.ClassFile.FieldType.int)).before args0 about1 = true := code_word (m := ⟨20, 1⟩) (meth := k20m1) (c := k20c1) (by decide +kernel) rfl rfl rfl (by decide +kernel)
set_option maxRecDepth 65536 in
theorem w_c21 : (Jvm.Cond.code ({ cls := "java/util/ArrayList", name := "get", desc := "(I)Ljava/lang/Object;" } : Jvm.MethodName) jdk_38_method_20_code (2 : Nat) (Option.some (Jvm.ClassFile.FieldType.object "java/lang/Object"))).before args0 about1 = true := code_word (m := ⟨17, 5⟩) (meth := k17m5) (c := k17c5) (by decide +kernel) rfl rfl rfl (by decide +kernel)
set_option maxRecDepth 65536 in
theorem w_c22 : (Jvm.Cond.code ({ cls := "java/util/Objects", name := "checkIndex", desc := "(II)I" } : Jvm.MethodName) jdk_31_method_17_code (2 : Nat) (Option.some Jvm.ClassFile.FieldType.int)).before args0 about1 = true := code_word (m := ⟨21, 1⟩) (meth := k21m1) (c := k21c1) (by decide +kernel) rfl rfl rfl (by decide +kernel)
set_option maxRecDepth 65536 in
theorem w_c23 : (Jvm.Cond.code ({ cls := "jdk/internal/util/Preconditions", name := "checkIndex", desc := "(IILjava/util/function/BiFunction;)I" } : Jvm.MethodName) jdk_41_method_11_code (3 : Nat) (Option.some Jvm.ClassFile.FieldType.int)).before args0 about1 = true := code_word (m := ⟨22, 1⟩) (meth := k22m1) (c := k22c1) (by decide +kernel) rfl rfl rfl (by decide +kernel)
set_option maxRecDepth 65536 in
theorem w_c24 : (Jvm.Cond.code ({ cls := "java/util/ArrayList", name := "elementData", desc := "(I)Ljava/lang/Object;" } : Jvm.MethodName) jdk_38_method_18_code (2 : Nat) (Option.some (Jvm.ClassFile.FieldType.object "java/lang/Object"))).before args0 about1 = true := code_word (m := ⟨17, 4⟩) (meth := k17m4) (c := k17c4) (by decide +kernel) rfl rfl rfl (by decide +kernel)
set_option maxRecDepth 65536 in
theorem w_c25 : (Jvm.Cond.code ({ cls := "java/lang/String", name := "equals", desc := "(Ljava/lang/Object;)Z" } : Jvm.MethodName) jdk_42_method_66_code (3 : Nat) (Option.some Jvm.ClassFile.FieldType.boolean)).before args0 about1 = true := code_word (m := ⟨7, 2⟩) (meth := k7m2) (c := k7c2) (by decide +kernel) rfl rfl rfl (by decide +kernel)
def codes1 : List Jvm.Cond := [Jvm.Cond.code x code maxLocals ret, Jvm.Cond.code ({ cls := "com/example/axiomwright/axiomwright/cli/TimingsNonePinLaw", name := "element", desc := "(I)Ljava/lang/String;" } : Jvm.MethodName) method_2_code (5 : Nat) (Option.some (Jvm.ClassFile.FieldType.object "java/lang/String")), Jvm.Cond.code ({ cls := "java/lang/String", name := "<init>", desc := "([C)V" } : Jvm.MethodName) jdk_42_method_3_code (2 : Nat) (Option.none : Option Jvm.ClassFile.FieldType), Jvm.Cond.code ({ cls := "java/lang/String", name := "<init>", desc := "([CIILjava/lang/Void;)V" } : Jvm.MethodName) jdk_42_method_149_code (6 : Nat) (Option.none : Option Jvm.ClassFile.FieldType), Jvm.Cond.code ({ cls := "java/lang/Object", name := "<init>", desc := "()V" } : Jvm.MethodName) object_method_1_code (1 : Nat) (Option.none : Option Jvm.ClassFile.FieldType), Jvm.Cond.code ({ cls := "java/lang/StringUTF16", name := "compress", desc := "([CII)[B" } : Jvm.MethodName) jdk_52_method_16_code (6 : Nat) (Option.some (Jvm.ClassFile.FieldType.array Jvm.ClassFile.FieldType.byte)), Jvm.Cond.code ({ cls := "java/lang/StringUTF16", name := "compress", desc := "([CI[BII)I" } : Jvm.MethodName) jdk_52_method_21_code (7 : Nat) (Option.some Jvm.ClassFile.FieldType.int), Jvm.Cond.code ({ cls := "java/lang/StringUTF16", name := "coderFromArrayLen", desc := "([BI)B" } : Jvm.MethodName) jdk_52_method_15_code (2 : Nat) (Option.some Jvm.ClassFile.FieldType.byte), Jvm.Cond.code ({ cls := "java/util/ArrayList", name := "<init>", desc := "()V" } : Jvm.MethodName) jdk_38_method_2_code (1 : Nat) (Option.none : Option Jvm.ClassFile.FieldType), Jvm.Cond.code ({ cls := "java/util/AbstractList", name := "<init>", desc := "()V" } : Jvm.MethodName) jdk_39_method_1_code (1 : Nat) (Option.none : Option Jvm.ClassFile.FieldType), Jvm.Cond.code ({ cls := "java/util/AbstractCollection", name := "<init>", desc := "()V" } : Jvm.MethodName) jdk_22_method_1_code (1 : Nat) (Option.none : Option Jvm.ClassFile.FieldType), Jvm.Cond.code ({ cls := "com/example/axiomwright/axiomwright/cli/Timings", name := "none", desc := "(Ljava/util/List;)Lcom/example/axiomwright/axiomwright/cli/Timings;" } : Jvm.MethodName) prog_13_method_2_code (1 : Nat) (Option.some (Jvm.ClassFile.FieldType.object "com/example/axiomwright/axiomwright/cli/Timings")), Jvm.Cond.code ({ cls := "java/util/Optional", name := "empty", desc := "()Ljava/util/Optional;" } : Jvm.MethodName) jdk_32_method_1_code (1 : Nat) (Option.some (Jvm.ClassFile.FieldType.object "java/util/Optional")), Jvm.Cond.code ({ cls := "com/example/axiomwright/axiomwright/cli/Timings", name := "<init>", desc := "(Ljava/util/List;Ljava/util/Optional;)V" } : Jvm.MethodName) prog_13_method_1_code (3 : Nat) (Option.none : Option Jvm.ClassFile.FieldType), Jvm.Cond.code ({ cls := "com/example/axiomwright/axiomwright/cli/Timings", name := "arguments", desc := "()Ljava/util/List;" } : Jvm.MethodName) prog_13_method_4_code (1 : Nat) (Option.some (Jvm.ClassFile.FieldType.object "java/util/List")), Jvm.Cond.code ({ cls := "java/util/ArrayList", name := "size", desc := "()I" } : Jvm.MethodName) jdk_38_method_8_code (1 : Nat) (Option.some Jvm.ClassFile.FieldType.int), Jvm.Cond.code ({ cls := "java/util/ArrayList", name := "add", desc := "(Ljava/lang/Object;)Z" } : Jvm.MethodName) jdk_38_method_25_code (2 : Nat) (Option.some Jvm.ClassFile.FieldType.boolean), Jvm.Cond.code ({ cls := "java/util/ArrayList", name := "add", desc := "(Ljava/lang/Object;[Ljava/lang/Object;I)V" } : Jvm.MethodName) jdk_38_method_24_code (4 : Nat) (Option.none : Option Jvm.ClassFile.FieldType), Jvm.Cond.code ({ cls := "java/util/ArrayList", name := "grow", desc := "()[Ljava/lang/Object;" } : Jvm.MethodName) jdk_38_method_7_code (1 : Nat) (Option.some (Jvm.ClassFile.FieldType.array (Jvm.ClassFile.FieldType.object "java/lang/Object"))), Jvm.Cond.code ({ cls := "java/util/ArrayList", name := "grow", desc := "(I)[Ljava/lang/Object;" } : Jvm.MethodName) jdk_38_method_6_code (4 : Nat) (Option.some (Jvm.ClassFile.FieldType.array (Jvm.ClassFile.FieldType.object "java/lang/Object"))), Jvm.Cond.code ({ cls := "java/lang/Math", name := "max", desc := "(II)I" } : Jvm.MethodName) jdk_29_method_65_code (2 : Nat) (Option.some Jvm.ClassFile.FieldType.int), Jvm.Cond.code ({ cls := "java/util/ArrayList", name := "get", desc := "(I)Ljava/lang/Object;" } : Jvm.MethodName) jdk_38_method_20_code (2 : Nat) (Option.some (Jvm.ClassFile.FieldType.object "java/lang/Object")), Jvm.Cond.code ({ cls := "java/util/Objects", name := "checkIndex", desc := "(II)I" } : Jvm.MethodName) jdk_31_method_17_code (2 : Nat) (Option.some Jvm.ClassFile.FieldType.int), Jvm.Cond.code ({ cls := "jdk/internal/util/Preconditions", name := "checkIndex", desc := "(IILjava/util/function/BiFunction;)I" } : Jvm.MethodName) jdk_41_method_11_code (3 : Nat) (Option.some Jvm.ClassFile.FieldType.int), Jvm.Cond.code ({ cls := "java/util/ArrayList", name := "elementData", desc := "(I)Ljava/lang/Object;" } : Jvm.MethodName) jdk_38_method_18_code (2 : Nat) (Option.some (Jvm.ClassFile.FieldType.object "java/lang/Object")), Jvm.Cond.code ({ cls := "java/lang/String", name := "equals", desc := "(Ljava/lang/Object;)Z" } : Jvm.MethodName) jdk_42_method_66_code (3 : Nat) (Option.some Jvm.ClassFile.FieldType.boolean)]
set_option maxRecDepth 65536 in
theorem codes_eq : words1.filter isCode = codes1 := rfl
theorem w_codes : ∀ c ∈ words1.filter isCode, c.before args0 about1 = true := by
  rw [codes_eq]
  intro c hc
  simp only [codes1, List.mem_cons, List.not_mem_nil, or_false] at hc
  rcases hc with rfl | rfl | rfl | rfl | rfl | rfl | rfl | rfl | rfl | rfl | rfl | rfl | rfl | rfl | rfl | rfl | rfl | rfl | rfl | rfl | rfl | rfl | rfl | rfl | rfl | rfl
  · exact w_c0
  · exact w_c1
  · exact w_c2
  · exact w_c3
  · exact w_c4
  · exact w_c5
  · exact w_c6
  · exact w_c7
  · exact w_c8
  · exact w_c9
  · exact w_c10
  · exact w_c11
  · exact w_c12
  · exact w_c13
  · exact w_c14
  · exact w_c15
  · exact w_c16
  · exact w_c17
  · exact w_c18
  · exact w_c19
  · exact w_c20
  · exact w_c21
  · exact w_c22
  · exact w_c23
  · exact w_c24
  · exact w_c25
set_option maxRecDepth 65536 in
theorem w_t1 : (words1.take 24).all (fun c => isCode c || c.before args0 about1) = true := by decide +kernel
set_option maxRecDepth 65536 in
theorem w_t2 : ((words1.drop 24).take 24).all (fun c => isCode c || c.before args0 about1) = true := by decide +kernel
set_option maxRecDepth 65536 in
theorem w_t3 : (((words1.drop 24).drop 24).take 24).all (fun c => isCode c || c.before args0 about1) = true := by decide +kernel
set_option maxRecDepth 65536 in
theorem w_t4 : ((((words1.drop 24).drop 24).drop 24).take 24).all (fun c => isCode c || c.before args0 about1) = true := by decide +kernel
set_option maxRecDepth 65536 in
theorem w_t5 : (((((words1.drop 24).drop 24).drop 24).drop 24).take 24).all (fun c => isCode c || c.before args0 about1) = true := by decide +kernel
set_option maxRecDepth 65536 in
theorem w_t6 : ((((((words1.drop 24).drop 24).drop 24).drop 24).drop 24).take 24).all (fun c => isCode c || c.before args0 about1) = true := by decide +kernel
set_option maxRecDepth 65536 in
theorem w_t7 : ((((((words1.drop 24).drop 24).drop 24).drop 24).drop 24).drop 24).all (fun c => isCode c || c.before args0 about1) = true := by decide +kernel
theorem w_tables : (allAtoms (Jvm.Cond.code x code maxLocals ret :: tables_1)).before args0 about1 = true := by
  rw [allAtoms_all]
  show words1.all (fun c => c.before args0 about1) = true
  refine all_split ?_ w_codes
  rw [← List.take_append_drop 24 words1, List.all_append, w_t1, ← List.take_append_drop 24 (words1.drop 24), List.all_append, w_t2, ← List.take_append_drop 24 ((words1.drop 24).drop 24), List.all_append, w_t3, ← List.take_append_drop 24 (((words1.drop 24).drop 24).drop 24), List.all_append, w_t4, ← List.take_append_drop 24 ((((words1.drop 24).drop 24).drop 24).drop 24), List.all_append, w_t5, ← List.take_append_drop 24 (((((words1.drop 24).drop 24).drop 24).drop 24).drop 24), List.all_append, w_t6, w_t7]
  rfl
set_option maxRecDepth 65536 in
theorem w_rest : rest_1_c.before args0 about1 = true := by decide +kernel
set_option maxRecDepth 65536 in
theorem w_case : (Jvm.Cond.and given_1 narrow_1).before args0 about1 = true := by decide +kernel
set_option maxRecDepth 65536 in
theorem w_consts : constsHeld consts_1 about1 := Jvm.Lit.constsHeldB_iff.mp (by decide +kernel)
theorem w_applies : (headSpec (Jvm.Cond.code x code maxLocals ret :: tables_1) room_1).applies x e0.platform about1 = true :=
  (Spec.applies_iff w_frames).mpr ⟨w_running, w_runnable, w_alone, w_named, w_hears, w_ripe, w_room, w_tables⟩
theorem atStart : AtStart classFile x code maxLocals ret World_1 tables_1 room_1 Calls_1 rest_1 Pre_1 launch0 p0 e0 about1 theMethod args0 below0 :=
  ⟨lists_1, trivial, launch0.admits_env _ _ _, launch0.least_env, fairChoices_fair.cas, fairChoices_fair.clock, w_frames, w_args, w_heap, w_applies, ⟨w_consts, trivial⟩, w_rest, w_case⟩
end start1
theorem witness_1 : WitnessClaimed_1 := ⟨start1.p0, start1.e0, start1.about1, start1.theMethod, start1.args0, start1.below0, start1.atStart⟩
end Jvm.Pilot.@@N@@
