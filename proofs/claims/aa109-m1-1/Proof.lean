import JvmDerived
import JvmDerived.Pilot.@@N@@Statement
import JvmDerived.Pilot.@@N@@Code
set_option linter.unusedVariables false
set_option linter.unusedSimpArgs false
namespace Jvm.Pilot.@@N@@
open Jvm Jvm.ClassFile Sem Op Lib Jvm.Free Jvm.Stand Jvm.LawKit Jvm.RoadKit Bundle Jvm.Pilot.@@N@@.Jvm.D
theorem own_go {tb : Tables} {e : Env} {below : List Frame} {A B : State} {P : State → Outcome → Prop} (h : ∀ t, Steps tb e below B t → Steps tb e below A t) (k : ∃ s₂ o, Steps tb e below B s₂ ∧ P s₂ o) : ∃ s₂ o, Steps tb e below A s₂ ∧ P s₂ o := by
  obtain ⟨s₂, o, h1, h2⟩ := k; exact ⟨s₂, o, h _ h1, h2⟩
theorem d1_0 : decode method_2_code 0 = .ok (.iload_n 0, 1) := by decide +kernel
theorem d1_1 : decode method_2_code 1 = .ok (.ifCond .ne 7, 3) := by decide +kernel
theorem d1_4 : decode method_2_code 4 = .ok (.getstatic 7, 3) := by decide +kernel
theorem d1_7 : decode method_2_code 7 = .ok (.areturn, 1) := by decide +kernel
theorem pn_0 : plainName "com/example/decider/decider/library/xpath/MoveUpwardPinLaw" = true := by first | (simp [plainName, overriddenIn]; done) | decide +kernel
theorem d1_8 : decode method_2_code 8 = .ok (.iload_n 0, 1) := by decide +kernel
theorem d1_9 : decode method_2_code 9 = .ok (.iconst 1, 1) := by decide +kernel
theorem d1_10 : decode method_2_code 10 = .ok (.if_icmp .ne 7, 3) := by decide +kernel
theorem d1_13 : decode method_2_code 13 = .ok (.getstatic 13, 3) := by decide +kernel
theorem d1_16 : decode method_2_code 16 = .ok (.areturn, 1) := by decide +kernel
theorem d1_17 : decode method_2_code 17 = .ok (.iload_n 0, 1) := by decide +kernel
theorem d1_18 : decode method_2_code 18 = .ok (.iconst 2, 1) := by decide +kernel
theorem d1_19 : decode method_2_code 19 = .ok (.if_icmp .ne 7, 3) := by decide +kernel
theorem d1_22 : decode method_2_code 22 = .ok (.getstatic 16, 3) := by decide +kernel
theorem d1_25 : decode method_2_code 25 = .ok (.areturn, 1) := by decide +kernel
theorem d1_26 : decode method_2_code 26 = .ok (.iload_n 0, 1) := by decide +kernel
theorem d1_27 : decode method_2_code 27 = .ok (.iconst 3, 1) := by decide +kernel
theorem d1_28 : decode method_2_code 28 = .ok (.if_icmp .ne 7, 3) := by decide +kernel
theorem d1_31 : decode method_2_code 31 = .ok (.getstatic 19, 3) := by decide +kernel
theorem d1_34 : decode method_2_code 34 = .ok (.areturn, 1) := by decide +kernel
theorem d1_35 : decode method_2_code 35 = .ok (.iload_n 0, 1) := by decide +kernel
theorem d1_36 : decode method_2_code 36 = .ok (.iconst 4, 1) := by decide +kernel
theorem d1_37 : decode method_2_code 37 = .ok (.if_icmp .ne 7, 3) := by decide +kernel
theorem d1_40 : decode method_2_code 40 = .ok (.getstatic 22, 3) := by decide +kernel
theorem d1_43 : decode method_2_code 43 = .ok (.areturn, 1) := by decide +kernel
theorem d1_44 : decode method_2_code 44 = .ok (.getstatic 25, 3) := by decide +kernel
theorem d1_47 : decode method_2_code 47 = .ok (.areturn, 1) := by decide +kernel
theorem d2_0 : decode prog_85_method_6_code 0 = .ok (.aload_n 0, 1) := by decide +kernel
theorem d2_1 : decode prog_85_method_6_code 1 = .ok (.getstatic 10, 3) := by decide +kernel
theorem d2_4 : decode prog_85_method_6_code 4 = .ok (.if_acmp .eq 17, 3) := by decide +kernel
theorem d2_21 : decode prog_85_method_6_code 21 = .ok (.iconst 1, 1) := by decide +kernel
theorem d2_22 : decode prog_85_method_6_code 22 = .ok (.goto 4, 3) := by decide +kernel
theorem d2_26 : decode prog_85_method_6_code 26 = .ok (.ireturn, 1) := by decide +kernel
theorem d2_7 : decode prog_85_method_6_code 7 = .ok (.aload_n 0, 1) := by decide +kernel
theorem d2_8 : decode prog_85_method_6_code 8 = .ok (.getstatic 13, 3) := by decide +kernel
theorem d2_11 : decode prog_85_method_6_code 11 = .ok (.if_acmp .eq 10, 3) := by decide +kernel
theorem d2_14 : decode prog_85_method_6_code 14 = .ok (.aload_n 0, 1) := by decide +kernel
theorem d2_15 : decode prog_85_method_6_code 15 = .ok (.getstatic 16, 3) := by decide +kernel
theorem d2_18 : decode prog_85_method_6_code 18 = .ok (.if_acmp .ne 7, 3) := by decide +kernel
theorem d2_25 : decode prog_85_method_6_code 25 = .ok (.iconst 0, 1) := by decide +kernel
theorem pn_1 : plainName "com/example/decider/decider/library/xpath/Move" = true := by first | (simp [plainName, overriddenIn]; done) | decide +kernel
theorem d3_0 : decode prog_85_method_4_code 0 = .ok (.aload_n 0, 1) := by decide +kernel
theorem d3_1 : decode prog_85_method_4_code 1 = .ok (.getfield 41, 3) := by decide +kernel
theorem d3_4 : decode prog_85_method_4_code 4 = .ok (.areturn, 1) := by decide +kernel
theorem d4_0 : decode prog_138_method_5_code 0 = .ok (.aload_n 0, 1) := by decide +kernel
theorem d4_1 : decode prog_138_method_5_code 1 = .ok (.getfield 35, 3) := by decide +kernel
theorem d4_4 : decode prog_138_method_5_code 4 = .ok (.areturn, 1) := by decide +kernel
theorem pn_2 : plainName "com/example/decider/decider/logic/formula/Modality" = true := by first | (simp [plainName, overriddenIn]; done) | decide +kernel
theorem d6_0 : decode jdk_42_method_152_code 0 = .ok (.getstatic 38, 3) := by decide +kernel
theorem d6_3 : decode jdk_42_method_152_code 3 = .ok (.ifCond .eq 10, 3) := by decide +kernel
theorem d6_6 : decode jdk_42_method_152_code 6 = .ok (.aload_n 0, 1) := by decide +kernel
theorem d6_7 : decode jdk_42_method_152_code 7 = .ok (.getfield 15, 3) := by decide +kernel
theorem d6_10 : decode jdk_42_method_152_code 10 = .ok (.goto 4, 3) := by decide +kernel
theorem d6_14 : decode jdk_42_method_152_code 14 = .ok (.ireturn, 1) := by decide +kernel
theorem pn_3 : plainName "java/lang/String" = true := by first | (simp [plainName, overriddenIn]; done) | decide +kernel
theorem d8_0 : decode jdk_42_method_154_code 0 = .ok (.getstatic 38, 3) := by decide +kernel
theorem d8_3 : decode jdk_42_method_154_code 3 = .ok (.ifCond .eq 14, 3) := by decide +kernel
theorem d8_6 : decode jdk_42_method_154_code 6 = .ok (.aload_n 0, 1) := by decide +kernel
theorem d8_7 : decode jdk_42_method_154_code 7 = .ok (.getfield 15, 3) := by decide +kernel
theorem d8_10 : decode jdk_42_method_154_code 10 = .ok (.ifCond .ne 7, 3) := by decide +kernel
theorem d8_13 : decode jdk_42_method_154_code 13 = .ok (.iconst 1, 1) := by decide +kernel
theorem d8_14 : decode jdk_42_method_154_code 14 = .ok (.goto 4, 3) := by decide +kernel
theorem d8_18 : decode jdk_42_method_154_code 18 = .ok (.ireturn, 1) := by decide +kernel
theorem d13_0 : decode jdk_37_method_2_code 0 = .ok (.aload_n 0, 1) := by decide +kernel
theorem d13_1 : decode jdk_37_method_2_code 1 = .ok (.getfield 7, 3) := by decide +kernel
theorem d13_4 : decode jdk_37_method_2_code 4 = .ok (.ireturn, 1) := by decide +kernel
theorem pn_4 : plainName "java/lang/Enum" = true := by first | (simp [plainName, overriddenIn]; done) | decide +kernel
theorem d12_0 : decode prog_85_method_5_code 0 = .ok (.aload_n 0, 1) := by decide +kernel
theorem d12_1 : decode prog_85_method_5_code 1 = .ok (.invokevirtual 45, 3) := by decide +kernel
theorem pd_0 : parseMethodDescriptor "()I" = some ⟨[], some .int⟩ := by decide +kernel
theorem d12_4 : decode prog_85_method_5_code 4 = .ok (.tableswitch 40 0 5 #[50, 56, 62, 68, 74, 80], 40) := by decide +kernel
theorem d12_54 : decode prog_85_method_5_code 54 = .ok (.getstatic 10, 3) := by decide +kernel
theorem d12_57 : decode prog_85_method_5_code 57 = .ok (.goto 30, 3) := by decide +kernel
theorem d12_87 : decode prog_85_method_5_code 87 = .ok (.areturn, 1) := by decide +kernel
theorem d12_60 : decode prog_85_method_5_code 60 = .ok (.getstatic 13, 3) := by decide +kernel
theorem d12_63 : decode prog_85_method_5_code 63 = .ok (.goto 24, 3) := by decide +kernel
theorem d12_66 : decode prog_85_method_5_code 66 = .ok (.getstatic 3, 3) := by decide +kernel
theorem d12_69 : decode prog_85_method_5_code 69 = .ok (.goto 18, 3) := by decide +kernel
theorem d12_72 : decode prog_85_method_5_code 72 = .ok (.getstatic 7, 3) := by decide +kernel
theorem d12_75 : decode prog_85_method_5_code 75 = .ok (.goto 12, 3) := by decide +kernel
theorem d12_78 : decode prog_85_method_5_code 78 = .ok (.getstatic 19, 3) := by decide +kernel
theorem d12_81 : decode prog_85_method_5_code 81 = .ok (.goto 6, 3) := by decide +kernel
theorem d12_84 : decode prog_85_method_5_code 84 = .ok (.getstatic 16, 3) := by decide +kernel
theorem d5_0 : decode jdk_42_method_54_code 0 = .ok (.aload_n 0, 1) := by decide +kernel
theorem d5_1 : decode jdk_42_method_54_code 1 = .ok (.getfield 9, 3) := by decide +kernel
theorem d5_4 : decode jdk_42_method_54_code 4 = .ok (.arraylength, 1) := by decide +kernel
theorem d5_5 : decode jdk_42_method_54_code 5 = .ok (.aload_n 0, 1) := by decide +kernel
theorem d5_6 : decode jdk_42_method_54_code 6 = .ok (.invokevirtual 335, 3) := by decide +kernel
theorem pd_1 : parseMethodDescriptor "()B" = some ⟨[], some .byte⟩ := by decide +kernel
theorem d5_9 : decode jdk_42_method_54_code 9 = .ok (.ishr, 1) := by decide +kernel
theorem d5_10 : decode jdk_42_method_54_code 10 = .ok (.ireturn, 1) := by decide +kernel
theorem d11_0 : decode jdk_41_method_11_code 0 = .ok (.iload_n 0, 1) := by decide +kernel
theorem d11_1 : decode jdk_41_method_11_code 1 = .ok (.ifCond .lt 8, 3) := by decide +kernel
theorem d11_4 : decode jdk_41_method_11_code 4 = .ok (.iload_n 0, 1) := by decide +kernel
theorem d11_5 : decode jdk_41_method_11_code 5 = .ok (.iload_n 1, 1) := by decide +kernel
theorem d11_6 : decode jdk_41_method_11_code 6 = .ok (.if_icmp .lt 10, 3) := by decide +kernel
theorem d11_16 : decode jdk_41_method_11_code 16 = .ok (.iload_n 0, 1) := by decide +kernel
theorem d11_17 : decode jdk_41_method_11_code 17 = .ok (.ireturn, 1) := by decide +kernel
theorem pn_5 : plainName "jdk/internal/util/Preconditions" = true := by first | (simp [plainName, overriddenIn]; done) | decide +kernel
theorem d10_0 : decode jdk_42_method_155_code 0 = .ok (.iload_n 0, 1) := by decide +kernel
theorem d10_1 : decode jdk_42_method_155_code 1 = .ok (.iload_n 1, 1) := by decide +kernel
theorem d10_2 : decode jdk_42_method_155_code 2 = .ok (.getstatic 1053, 3) := by decide +kernel
theorem d10_5 : decode jdk_42_method_155_code 5 = .ok (.invokestatic 1059, 3) := by decide +kernel
theorem pd_2 : parseMethodDescriptor "(IILjava/util/function/BiFunction;)I" = some ⟨[.int, .int, (.object "java/util/function/BiFunction")], some .int⟩ := by decide +kernel
theorem d10_8 : decode jdk_42_method_155_code 8 = .ok (.pop, 1) := by decide +kernel
theorem d10_9 : decode jdk_42_method_155_code 9 = .ok (.return_, 1) := by decide +kernel
theorem d9_0 : decode jdk_43_method_2_code 0 = .ok (.iload_n 1, 1) := by decide +kernel
theorem d9_1 : decode jdk_43_method_2_code 1 = .ok (.aload_n 0, 1) := by decide +kernel
theorem d9_2 : decode jdk_43_method_2_code 2 = .ok (.arraylength, 1) := by decide +kernel
theorem d9_3 : decode jdk_43_method_2_code 3 = .ok (.invokestatic 9, 3) := by decide +kernel
theorem pd_3 : parseMethodDescriptor "(II)V" = some ⟨[.int, .int], none⟩ := by decide +kernel
theorem d9_6 : decode jdk_43_method_2_code 6 = .ok (.aload_n 0, 1) := by decide +kernel
theorem d9_7 : decode jdk_43_method_2_code 7 = .ok (.iload_n 1, 1) := by decide +kernel
theorem d9_8 : decode jdk_43_method_2_code 8 = .ok (.baload, 1) := by decide +kernel
theorem d9_9 : decode jdk_43_method_2_code 9 = .ok (.sipush 255, 3) := by decide +kernel
theorem d9_12 : decode jdk_43_method_2_code 12 = .ok (.iand, 1) := by decide +kernel
theorem d9_13 : decode jdk_43_method_2_code 13 = .ok (.i2c, 1) := by decide +kernel
theorem d9_14 : decode jdk_43_method_2_code 14 = .ok (.ireturn, 1) := by decide +kernel
theorem pn_6 : plainName "java/lang/StringLatin1" = true := by first | (simp [plainName, overriddenIn]; done) | decide +kernel
theorem d7_0 : decode jdk_42_method_56_code 0 = .ok (.aload_n 0, 1) := by decide +kernel
theorem d7_1 : decode jdk_42_method_56_code 1 = .ok (.invokevirtual 492, 3) := by decide +kernel
theorem pd_4 : parseMethodDescriptor "()Z" = some ⟨[], some .boolean⟩ := by decide +kernel
theorem d7_4 : decode jdk_42_method_56_code 4 = .ok (.ifCond .eq 12, 3) := by decide +kernel
theorem d7_7 : decode jdk_42_method_56_code 7 = .ok (.aload_n 0, 1) := by decide +kernel
theorem d7_8 : decode jdk_42_method_56_code 8 = .ok (.getfield 9, 3) := by decide +kernel
theorem d7_11 : decode jdk_42_method_56_code 11 = .ok (.iload_n 1, 1) := by decide +kernel
theorem d7_12 : decode jdk_42_method_56_code 12 = .ok (.invokestatic 495, 3) := by decide +kernel
theorem pd_5 : parseMethodDescriptor "([BI)C" = some ⟨[(.array .byte), .int], some .char⟩ := by decide +kernel
theorem d7_15 : decode jdk_42_method_56_code 15 = .ok (.ireturn, 1) := by decide +kernel
theorem pd_6 : parseMethodDescriptor "(I)Lcom/example/decider/decider/library/xpath/Move;" = some ⟨[.int], some (.object "com/example/decider/decider/library/xpath/Move")⟩ := by decide +kernel
theorem pd_7 : parseMethodDescriptor "()Lcom/example/decider/decider/logic/formula/Modality;" = some ⟨[], some (.object "com/example/decider/decider/logic/formula/Modality")⟩ := by decide +kernel
theorem pd_8 : parseMethodDescriptor "()Ljava/lang/String;" = some ⟨[], some (.object "java/lang/String")⟩ := by decide +kernel
theorem pd_9 : parseMethodDescriptor "(I)C" = some ⟨[.int], some .char⟩ := by decide +kernel
theorem pd_10 : parseMethodDescriptor "()Lcom/example/decider/decider/library/xpath/Move;" = some ⟨[], some (.object "com/example/decider/decider/library/xpath/Move")⟩ := by decide +kernel
def Qrm1_0 (Z : State) (s_Move_FIRST_CHILD : Addr) (h0 : Heap) (n0 : Nat) (v : Option Value) (h : Heap) (L : List Loc) : Prop := v = some (.ref s_Move_FIRST_CHILD) ∧ Fr n0 L ∧ h = h0
theorem efrm1_0 (m : MethodId)  : entryFrame m #[(.int (0 : Int32))] 1 = mkF m 0 #[.val (.int (0 : Int32))] [] := by first | (simp [entryFrame, mkF, argsToLocals, Value.category]; done) | rfl
set_option maxRecDepth 65536 in
set_option maxHeartbeats 40000000 in
theorem rm1_0 (l : Launch) (Z : State) (a0 : Array Value) (hw : ∀ d ∈ tables_1, d.before a0 Z = true) (ws : List Jvm.Cond) (s_Move_FIRST_CHILD : Addr) (h0 : Heap) (n0 : Nat) (Z0 : n0 ≤ h0.size) (P0 : Sta Z h0 "com/example/decider/decider/library/xpath/Move" "FIRST_CHILD" "Lcom/example/decider/decider/library/xpath/Move;" (.ref s_Move_FIRST_CHILD)) :
    MetFree l (⟨"com/example/decider/decider/library/xpath/MoveUpwardPinLaw", "pick", "(I)Lcom/example/decider/decider/library/xpath/Move;"⟩ : MethodName) (head1 (Jvm.Cond.code (⟨"com/example/decider/decider/library/xpath/MoveUpwardPinLaw", "pick", "(I)Lcom/example/decider/decider/library/xpath/Move;"⟩ : MethodName) method_2_code 1 (some (.object "com/example/decider/decider/library/xpath/Move")) :: ws) ({ frames := 0, cells := 0, slots := 0, locals := 0 } : Room)) (fun a U => a = #[(.int (0 : Int32))] ∧ Z.Warmed39 U.vm ∧ U.heap = h0) (fun _ _ _ _ _ => True) (fun _ U o U' => ∃ v L, o = .returned v ∧ Qrm1_0 Z s_Move_FIRST_CHILD h0 n0 v U'.heap L ∧ FrameEnd U o U' L ({ frames := 0, cells := 0, slots := 0, locals := 0 } : Room).cells ({ frames := 0, cells := 0, slots := 0, locals := 0 } : Room).slots) := by
  refine MetFree.of_bodySF (plainFor_of_name pn_0) hisR ?_
  intro p e s m args below meth c s₁ Bd hml0 hP hK
  obtain ⟨rfl, hZ, hh⟩ := hP
  have hx := Bd.exec
  have hby := Bd.bytes
  have hml : c.maxLocals = 1 := hml0
  have hown : s.vm.findClass "com/example/decider/decider/library/xpath/MoveUpwardPinLaw" = some m.cls := findClass_of_methodNamed Bd.named
  have hnm := (name_of_methodNamed Bd.named Bd.method).1
  have X0 : Stand p l e ({ frames := 0, cells := 0, slots := 0, locals := 0 } : Room) s m #[(.int (0 : Int32))] below meth c s₁ [] 0 0 := Stand.of_body Bd
  have e0 : s₁.heap = h0 := by rw [← hh, Bd.state]; rfl
  have N0 := Fr.nil n0
  have K0 : Keep h0 h0 [] := Keep.refl h0 _
  refine own_go (B := s₁.setTop (mkF m 0 #[.val (.int (0 : Int32))] [])) (fun t k => castTop (efrm1_0 m ) k) ?_
  refine own_go (A := s₁.setTop (mkF m 0 #[.val (.int (0 : Int32))] [])) (B := s₁.setTop (mkF m 4 #[.val (.int (0 : Int32))] [])) (fun t k => ?_) ?_
  · show Steps p.tables e below (s₁.setTop (mkF m 0 #[.val (.int (0 : Int32))] [])) _
    refine XS.iloadN X0.here hx rfl (hb hby d1_0) rfl ?_
    show Steps p.tables e below (s₁.setTop (mkF m 1 #[.val (.int (0 : Int32))] [(.int (0 : Int32))])) _
    refine XS.ifNo X0.here hx rfl (hb hby d1_1) rfl ((if0 _ _).trans (teq (rfl : (0 : Int32) = (0 : Int32))).2) ?_
    exact k
  obtain ⟨T2, X2, e2, st2⟩ := getS2 X0 hx hZ hown (host := "") (Or.inl (hw _ (List.mem_of_getElem? (i := 5) rfl))) Via.refl e0 P0 (g := (mkF m 4 #[.val (.int (0 : Int32))] [])) rfl (hb hby d1_4)
  refine own_go st2 ?_
  obtain ⟨fs, hr, hrun, hended, hW, hsame⟩ := X2.leave (v := some (.ref s_Move_FIRST_CHILD)) (fun h => by rw [Bd.returns] at h; cases h)
  refine ⟨_, _, ?_, hrun, hended, _, _, rfl, ?_, ⟨_, rfl⟩, hW, hsame.mono (by decide) (by decide)⟩
  · show Steps p.tables e below (T2.setTop (mkF m 7 #[.val (.int (0 : Int32))] [(.ref s_Move_FIRST_CHILD)])) _
    exact retOut X2 hx Bd.returns rfl (Or.inr (Or.inr (Or.inr (Or.inr ⟨rfl, rfl, rfl⟩)))) (hb hby d1_7) hr
  · show Qrm1_0 Z s_Move_FIRST_CHILD h0 n0 _ T2.heap _
    rw [e2]
    exact ⟨rfl, N0, rfl⟩
def Qrm1_1 (Z : State) (s_Move_NEXT_SIBLING : Addr) (h0 : Heap) (n0 : Nat) (v : Option Value) (h : Heap) (L : List Loc) : Prop := v = some (.ref s_Move_NEXT_SIBLING) ∧ Fr n0 L ∧ h = h0
theorem efrm1_1 (m : MethodId)  : entryFrame m #[(.int (1 : Int32))] 1 = mkF m 0 #[.val (.int (1 : Int32))] [] := by first | (simp [entryFrame, mkF, argsToLocals, Value.category]; done) | rfl
set_option maxRecDepth 65536 in
set_option maxHeartbeats 40000000 in
theorem rm1_1 (l : Launch) (Z : State) (a0 : Array Value) (hw : ∀ d ∈ tables_1, d.before a0 Z = true) (ws : List Jvm.Cond) (s_Move_NEXT_SIBLING : Addr) (h0 : Heap) (n0 : Nat) (Z0 : n0 ≤ h0.size) (P0 : Sta Z h0 "com/example/decider/decider/library/xpath/Move" "NEXT_SIBLING" "Lcom/example/decider/decider/library/xpath/Move;" (.ref s_Move_NEXT_SIBLING)) :
    MetFree l (⟨"com/example/decider/decider/library/xpath/MoveUpwardPinLaw", "pick", "(I)Lcom/example/decider/decider/library/xpath/Move;"⟩ : MethodName) (head1 (Jvm.Cond.code (⟨"com/example/decider/decider/library/xpath/MoveUpwardPinLaw", "pick", "(I)Lcom/example/decider/decider/library/xpath/Move;"⟩ : MethodName) method_2_code 1 (some (.object "com/example/decider/decider/library/xpath/Move")) :: ws) ({ frames := 0, cells := 0, slots := 0, locals := 0 } : Room)) (fun a U => a = #[(.int (1 : Int32))] ∧ Z.Warmed39 U.vm ∧ U.heap = h0) (fun _ _ _ _ _ => True) (fun _ U o U' => ∃ v L, o = .returned v ∧ Qrm1_1 Z s_Move_NEXT_SIBLING h0 n0 v U'.heap L ∧ FrameEnd U o U' L ({ frames := 0, cells := 0, slots := 0, locals := 0 } : Room).cells ({ frames := 0, cells := 0, slots := 0, locals := 0 } : Room).slots) := by
  refine MetFree.of_bodySF (plainFor_of_name pn_0) hisR ?_
  intro p e s m args below meth c s₁ Bd hml0 hP hK
  obtain ⟨rfl, hZ, hh⟩ := hP
  have hx := Bd.exec
  have hby := Bd.bytes
  have hml : c.maxLocals = 1 := hml0
  have hown : s.vm.findClass "com/example/decider/decider/library/xpath/MoveUpwardPinLaw" = some m.cls := findClass_of_methodNamed Bd.named
  have hnm := (name_of_methodNamed Bd.named Bd.method).1
  have X0 : Stand p l e ({ frames := 0, cells := 0, slots := 0, locals := 0 } : Room) s m #[(.int (1 : Int32))] below meth c s₁ [] 0 0 := Stand.of_body Bd
  have e0 : s₁.heap = h0 := by rw [← hh, Bd.state]; rfl
  have N0 := Fr.nil n0
  have K0 : Keep h0 h0 [] := Keep.refl h0 _
  refine own_go (B := s₁.setTop (mkF m 0 #[.val (.int (1 : Int32))] [])) (fun t k => castTop (efrm1_1 m ) k) ?_
  refine own_go (A := s₁.setTop (mkF m 0 #[.val (.int (1 : Int32))] [])) (B := s₁.setTop (mkF m 13 #[.val (.int (1 : Int32))] [])) (fun t k => ?_) ?_
  · show Steps p.tables e below (s₁.setTop (mkF m 0 #[.val (.int (1 : Int32))] [])) _
    refine XS.iloadN X0.here hx rfl (hb hby d1_0) rfl ?_
    show Steps p.tables e below (s₁.setTop (mkF m 1 #[.val (.int (1 : Int32))] [(.int (1 : Int32))])) _
    refine XS.ifYes X0.here hx rfl (pc0 := 1) (pc' := 8) rfl (hb hby d1_1) rfl ((if0 _ _).trans (feq (by decide : ¬ ((1 : Int32) = (0 : Int32)))).2) (by decide) (by decide) ?_
    show Steps p.tables e below (s₁.setTop (mkF m 8 #[.val (.int (1 : Int32))] [])) _
    refine XS.iloadN X0.here hx rfl (hb hby d1_8) rfl ?_
    show Steps p.tables e below (s₁.setTop (mkF m 9 #[.val (.int (1 : Int32))] [(.int (1 : Int32))])) _
    refine XS.iconst X0.here hx rfl (hb hby d1_9) ?_
    show Steps p.tables e below (s₁.setTop (mkF m 10 #[.val (.int (1 : Int32))] [(.int (1 : Int32)), (.int (1 : Int32))])) _
    refine XS.icmpNo X0.here hx rfl (hb hby d1_10) rfl (teq (rfl : (1 : Int32) = (1 : Int32))).2 ?_
    exact k
  obtain ⟨T5, X5, e5, st5⟩ := getS2 X0 hx hZ hown (host := "") (Or.inl (hw _ (List.mem_of_getElem? (i := 94) rfl))) Via.refl e0 P0 (g := (mkF m 13 #[.val (.int (1 : Int32))] [])) rfl (hb hby d1_13)
  refine own_go st5 ?_
  obtain ⟨fs, hr, hrun, hended, hW, hsame⟩ := X5.leave (v := some (.ref s_Move_NEXT_SIBLING)) (fun h => by rw [Bd.returns] at h; cases h)
  refine ⟨_, _, ?_, hrun, hended, _, _, rfl, ?_, ⟨_, rfl⟩, hW, hsame.mono (by decide) (by decide)⟩
  · show Steps p.tables e below (T5.setTop (mkF m 16 #[.val (.int (1 : Int32))] [(.ref s_Move_NEXT_SIBLING)])) _
    exact retOut X5 hx Bd.returns rfl (Or.inr (Or.inr (Or.inr (Or.inr ⟨rfl, rfl, rfl⟩)))) (hb hby d1_16) hr
  · show Qrm1_1 Z s_Move_NEXT_SIBLING h0 n0 _ T5.heap _
    rw [e5]
    exact ⟨rfl, N0, rfl⟩
def Qrm1_2 (Z : State) (s_Move_CONVERSE_FIRST_CHILD : Addr) (h0 : Heap) (n0 : Nat) (v : Option Value) (h : Heap) (L : List Loc) : Prop := v = some (.ref s_Move_CONVERSE_FIRST_CHILD) ∧ Fr n0 L ∧ h = h0
theorem efrm1_2 (m : MethodId)  : entryFrame m #[(.int (2 : Int32))] 1 = mkF m 0 #[.val (.int (2 : Int32))] [] := by first | (simp [entryFrame, mkF, argsToLocals, Value.category]; done) | rfl
set_option maxRecDepth 65536 in
set_option maxHeartbeats 40000000 in
theorem rm1_2 (l : Launch) (Z : State) (a0 : Array Value) (hw : ∀ d ∈ tables_1, d.before a0 Z = true) (ws : List Jvm.Cond) (s_Move_CONVERSE_FIRST_CHILD : Addr) (h0 : Heap) (n0 : Nat) (Z0 : n0 ≤ h0.size) (P0 : Sta Z h0 "com/example/decider/decider/library/xpath/Move" "CONVERSE_FIRST_CHILD" "Lcom/example/decider/decider/library/xpath/Move;" (.ref s_Move_CONVERSE_FIRST_CHILD)) :
    MetFree l (⟨"com/example/decider/decider/library/xpath/MoveUpwardPinLaw", "pick", "(I)Lcom/example/decider/decider/library/xpath/Move;"⟩ : MethodName) (head1 (Jvm.Cond.code (⟨"com/example/decider/decider/library/xpath/MoveUpwardPinLaw", "pick", "(I)Lcom/example/decider/decider/library/xpath/Move;"⟩ : MethodName) method_2_code 1 (some (.object "com/example/decider/decider/library/xpath/Move")) :: ws) ({ frames := 0, cells := 0, slots := 0, locals := 0 } : Room)) (fun a U => a = #[(.int (2 : Int32))] ∧ Z.Warmed39 U.vm ∧ U.heap = h0) (fun _ _ _ _ _ => True) (fun _ U o U' => ∃ v L, o = .returned v ∧ Qrm1_2 Z s_Move_CONVERSE_FIRST_CHILD h0 n0 v U'.heap L ∧ FrameEnd U o U' L ({ frames := 0, cells := 0, slots := 0, locals := 0 } : Room).cells ({ frames := 0, cells := 0, slots := 0, locals := 0 } : Room).slots) := by
  refine MetFree.of_bodySF (plainFor_of_name pn_0) hisR ?_
  intro p e s m args below meth c s₁ Bd hml0 hP hK
  obtain ⟨rfl, hZ, hh⟩ := hP
  have hx := Bd.exec
  have hby := Bd.bytes
  have hml : c.maxLocals = 1 := hml0
  have hown : s.vm.findClass "com/example/decider/decider/library/xpath/MoveUpwardPinLaw" = some m.cls := findClass_of_methodNamed Bd.named
  have hnm := (name_of_methodNamed Bd.named Bd.method).1
  have X0 : Stand p l e ({ frames := 0, cells := 0, slots := 0, locals := 0 } : Room) s m #[(.int (2 : Int32))] below meth c s₁ [] 0 0 := Stand.of_body Bd
  have e0 : s₁.heap = h0 := by rw [← hh, Bd.state]; rfl
  have N0 := Fr.nil n0
  have K0 : Keep h0 h0 [] := Keep.refl h0 _
  refine own_go (B := s₁.setTop (mkF m 0 #[.val (.int (2 : Int32))] [])) (fun t k => castTop (efrm1_2 m ) k) ?_
  refine own_go (A := s₁.setTop (mkF m 0 #[.val (.int (2 : Int32))] [])) (B := s₁.setTop (mkF m 22 #[.val (.int (2 : Int32))] [])) (fun t k => ?_) ?_
  · show Steps p.tables e below (s₁.setTop (mkF m 0 #[.val (.int (2 : Int32))] [])) _
    refine XS.iloadN X0.here hx rfl (hb hby d1_0) rfl ?_
    show Steps p.tables e below (s₁.setTop (mkF m 1 #[.val (.int (2 : Int32))] [(.int (2 : Int32))])) _
    refine XS.ifYes X0.here hx rfl (pc0 := 1) (pc' := 8) rfl (hb hby d1_1) rfl ((if0 _ _).trans (feq (by decide : ¬ ((2 : Int32) = (0 : Int32)))).2) (by decide) (by decide) ?_
    show Steps p.tables e below (s₁.setTop (mkF m 8 #[.val (.int (2 : Int32))] [])) _
    refine XS.iloadN X0.here hx rfl (hb hby d1_8) rfl ?_
    show Steps p.tables e below (s₁.setTop (mkF m 9 #[.val (.int (2 : Int32))] [(.int (2 : Int32))])) _
    refine XS.iconst X0.here hx rfl (hb hby d1_9) ?_
    show Steps p.tables e below (s₁.setTop (mkF m 10 #[.val (.int (2 : Int32))] [(.int (1 : Int32)), (.int (2 : Int32))])) _
    refine XS.icmpYes X0.here hx rfl (pc0 := 10) (pc' := 17) rfl (hb hby d1_10) rfl (feq (by decide : ¬ ((2 : Int32) = (1 : Int32)))).2 (by decide) (by decide) ?_
    show Steps p.tables e below (s₁.setTop (mkF m 17 #[.val (.int (2 : Int32))] [])) _
    refine XS.iloadN X0.here hx rfl (hb hby d1_17) rfl ?_
    show Steps p.tables e below (s₁.setTop (mkF m 18 #[.val (.int (2 : Int32))] [(.int (2 : Int32))])) _
    refine XS.iconst X0.here hx rfl (hb hby d1_18) ?_
    show Steps p.tables e below (s₁.setTop (mkF m 19 #[.val (.int (2 : Int32))] [(.int (2 : Int32)), (.int (2 : Int32))])) _
    refine XS.icmpNo X0.here hx rfl (hb hby d1_19) rfl (teq (rfl : (2 : Int32) = (2 : Int32))).2 ?_
    exact k
  obtain ⟨T9, X9, e9, st9⟩ := getS2 X0 hx hZ hown (host := "") (Or.inl (hw _ (List.mem_of_getElem? (i := 91) rfl))) Via.refl e0 P0 (g := (mkF m 22 #[.val (.int (2 : Int32))] [])) rfl (hb hby d1_22)
  refine own_go st9 ?_
  obtain ⟨fs, hr, hrun, hended, hW, hsame⟩ := X9.leave (v := some (.ref s_Move_CONVERSE_FIRST_CHILD)) (fun h => by rw [Bd.returns] at h; cases h)
  refine ⟨_, _, ?_, hrun, hended, _, _, rfl, ?_, ⟨_, rfl⟩, hW, hsame.mono (by decide) (by decide)⟩
  · show Steps p.tables e below (T9.setTop (mkF m 25 #[.val (.int (2 : Int32))] [(.ref s_Move_CONVERSE_FIRST_CHILD)])) _
    exact retOut X9 hx Bd.returns rfl (Or.inr (Or.inr (Or.inr (Or.inr ⟨rfl, rfl, rfl⟩)))) (hb hby d1_25) hr
  · show Qrm1_2 Z s_Move_CONVERSE_FIRST_CHILD h0 n0 _ T9.heap _
    rw [e9]
    exact ⟨rfl, N0, rfl⟩
def Qrm1_3 (Z : State) (s_Move_CONVERSE_NEXT_SIBLING : Addr) (h0 : Heap) (n0 : Nat) (v : Option Value) (h : Heap) (L : List Loc) : Prop := v = some (.ref s_Move_CONVERSE_NEXT_SIBLING) ∧ Fr n0 L ∧ h = h0
theorem efrm1_3 (m : MethodId)  : entryFrame m #[(.int (3 : Int32))] 1 = mkF m 0 #[.val (.int (3 : Int32))] [] := by first | (simp [entryFrame, mkF, argsToLocals, Value.category]; done) | rfl
set_option maxRecDepth 65536 in
set_option maxHeartbeats 40000000 in
theorem rm1_3 (l : Launch) (Z : State) (a0 : Array Value) (hw : ∀ d ∈ tables_1, d.before a0 Z = true) (ws : List Jvm.Cond) (s_Move_CONVERSE_NEXT_SIBLING : Addr) (h0 : Heap) (n0 : Nat) (Z0 : n0 ≤ h0.size) (P0 : Sta Z h0 "com/example/decider/decider/library/xpath/Move" "CONVERSE_NEXT_SIBLING" "Lcom/example/decider/decider/library/xpath/Move;" (.ref s_Move_CONVERSE_NEXT_SIBLING)) :
    MetFree l (⟨"com/example/decider/decider/library/xpath/MoveUpwardPinLaw", "pick", "(I)Lcom/example/decider/decider/library/xpath/Move;"⟩ : MethodName) (head1 (Jvm.Cond.code (⟨"com/example/decider/decider/library/xpath/MoveUpwardPinLaw", "pick", "(I)Lcom/example/decider/decider/library/xpath/Move;"⟩ : MethodName) method_2_code 1 (some (.object "com/example/decider/decider/library/xpath/Move")) :: ws) ({ frames := 0, cells := 0, slots := 0, locals := 0 } : Room)) (fun a U => a = #[(.int (3 : Int32))] ∧ Z.Warmed39 U.vm ∧ U.heap = h0) (fun _ _ _ _ _ => True) (fun _ U o U' => ∃ v L, o = .returned v ∧ Qrm1_3 Z s_Move_CONVERSE_NEXT_SIBLING h0 n0 v U'.heap L ∧ FrameEnd U o U' L ({ frames := 0, cells := 0, slots := 0, locals := 0 } : Room).cells ({ frames := 0, cells := 0, slots := 0, locals := 0 } : Room).slots) := by
  refine MetFree.of_bodySF (plainFor_of_name pn_0) hisR ?_
  intro p e s m args below meth c s₁ Bd hml0 hP hK
  obtain ⟨rfl, hZ, hh⟩ := hP
  have hx := Bd.exec
  have hby := Bd.bytes
  have hml : c.maxLocals = 1 := hml0
  have hown : s.vm.findClass "com/example/decider/decider/library/xpath/MoveUpwardPinLaw" = some m.cls := findClass_of_methodNamed Bd.named
  have hnm := (name_of_methodNamed Bd.named Bd.method).1
  have X0 : Stand p l e ({ frames := 0, cells := 0, slots := 0, locals := 0 } : Room) s m #[(.int (3 : Int32))] below meth c s₁ [] 0 0 := Stand.of_body Bd
  have e0 : s₁.heap = h0 := by rw [← hh, Bd.state]; rfl
  have N0 := Fr.nil n0
  have K0 : Keep h0 h0 [] := Keep.refl h0 _
  refine own_go (B := s₁.setTop (mkF m 0 #[.val (.int (3 : Int32))] [])) (fun t k => castTop (efrm1_3 m ) k) ?_
  refine own_go (A := s₁.setTop (mkF m 0 #[.val (.int (3 : Int32))] [])) (B := s₁.setTop (mkF m 31 #[.val (.int (3 : Int32))] [])) (fun t k => ?_) ?_
  · show Steps p.tables e below (s₁.setTop (mkF m 0 #[.val (.int (3 : Int32))] [])) _
    refine XS.iloadN X0.here hx rfl (hb hby d1_0) rfl ?_
    show Steps p.tables e below (s₁.setTop (mkF m 1 #[.val (.int (3 : Int32))] [(.int (3 : Int32))])) _
    refine XS.ifYes X0.here hx rfl (pc0 := 1) (pc' := 8) rfl (hb hby d1_1) rfl ((if0 _ _).trans (feq (by decide : ¬ ((3 : Int32) = (0 : Int32)))).2) (by decide) (by decide) ?_
    show Steps p.tables e below (s₁.setTop (mkF m 8 #[.val (.int (3 : Int32))] [])) _
    refine XS.iloadN X0.here hx rfl (hb hby d1_8) rfl ?_
    show Steps p.tables e below (s₁.setTop (mkF m 9 #[.val (.int (3 : Int32))] [(.int (3 : Int32))])) _
    refine XS.iconst X0.here hx rfl (hb hby d1_9) ?_
    show Steps p.tables e below (s₁.setTop (mkF m 10 #[.val (.int (3 : Int32))] [(.int (1 : Int32)), (.int (3 : Int32))])) _
    refine XS.icmpYes X0.here hx rfl (pc0 := 10) (pc' := 17) rfl (hb hby d1_10) rfl (feq (by decide : ¬ ((3 : Int32) = (1 : Int32)))).2 (by decide) (by decide) ?_
    show Steps p.tables e below (s₁.setTop (mkF m 17 #[.val (.int (3 : Int32))] [])) _
    refine XS.iloadN X0.here hx rfl (hb hby d1_17) rfl ?_
    show Steps p.tables e below (s₁.setTop (mkF m 18 #[.val (.int (3 : Int32))] [(.int (3 : Int32))])) _
    refine XS.iconst X0.here hx rfl (hb hby d1_18) ?_
    show Steps p.tables e below (s₁.setTop (mkF m 19 #[.val (.int (3 : Int32))] [(.int (2 : Int32)), (.int (3 : Int32))])) _
    refine XS.icmpYes X0.here hx rfl (pc0 := 19) (pc' := 26) rfl (hb hby d1_19) rfl (feq (by decide : ¬ ((3 : Int32) = (2 : Int32)))).2 (by decide) (by decide) ?_
    show Steps p.tables e below (s₁.setTop (mkF m 26 #[.val (.int (3 : Int32))] [])) _
    refine XS.iloadN X0.here hx rfl (hb hby d1_26) rfl ?_
    show Steps p.tables e below (s₁.setTop (mkF m 27 #[.val (.int (3 : Int32))] [(.int (3 : Int32))])) _
    refine XS.iconst X0.here hx rfl (hb hby d1_27) ?_
    show Steps p.tables e below (s₁.setTop (mkF m 28 #[.val (.int (3 : Int32))] [(.int (3 : Int32)), (.int (3 : Int32))])) _
    refine XS.icmpNo X0.here hx rfl (hb hby d1_28) rfl (teq (rfl : (3 : Int32) = (3 : Int32))).2 ?_
    exact k
  obtain ⟨T14, X14, e14, st14⟩ := getS2 X0 hx hZ hown (host := "") (Or.inl (hw _ (List.mem_of_getElem? (i := 87) rfl))) Via.refl e0 P0 (g := (mkF m 31 #[.val (.int (3 : Int32))] [])) rfl (hb hby d1_31)
  refine own_go st14 ?_
  obtain ⟨fs, hr, hrun, hended, hW, hsame⟩ := X14.leave (v := some (.ref s_Move_CONVERSE_NEXT_SIBLING)) (fun h => by rw [Bd.returns] at h; cases h)
  refine ⟨_, _, ?_, hrun, hended, _, _, rfl, ?_, ⟨_, rfl⟩, hW, hsame.mono (by decide) (by decide)⟩
  · show Steps p.tables e below (T14.setTop (mkF m 34 #[.val (.int (3 : Int32))] [(.ref s_Move_CONVERSE_NEXT_SIBLING)])) _
    exact retOut X14 hx Bd.returns rfl (Or.inr (Or.inr (Or.inr (Or.inr ⟨rfl, rfl, rfl⟩)))) (hb hby d1_34) hr
  · show Qrm1_3 Z s_Move_CONVERSE_NEXT_SIBLING h0 n0 _ T14.heap _
    rw [e14]
    exact ⟨rfl, N0, rfl⟩
def Qrm1_4 (Z : State) (s_Move_TO_DOCUMENT : Addr) (h0 : Heap) (n0 : Nat) (v : Option Value) (h : Heap) (L : List Loc) : Prop := v = some (.ref s_Move_TO_DOCUMENT) ∧ Fr n0 L ∧ h = h0
theorem efrm1_4 (m : MethodId)  : entryFrame m #[(.int (4 : Int32))] 1 = mkF m 0 #[.val (.int (4 : Int32))] [] := by first | (simp [entryFrame, mkF, argsToLocals, Value.category]; done) | rfl
set_option maxRecDepth 65536 in
set_option maxHeartbeats 40000000 in
theorem rm1_4 (l : Launch) (Z : State) (a0 : Array Value) (hw : ∀ d ∈ tables_1, d.before a0 Z = true) (ws : List Jvm.Cond) (s_Move_TO_DOCUMENT : Addr) (h0 : Heap) (n0 : Nat) (Z0 : n0 ≤ h0.size) (P0 : Sta Z h0 "com/example/decider/decider/library/xpath/Move" "TO_DOCUMENT" "Lcom/example/decider/decider/library/xpath/Move;" (.ref s_Move_TO_DOCUMENT)) :
    MetFree l (⟨"com/example/decider/decider/library/xpath/MoveUpwardPinLaw", "pick", "(I)Lcom/example/decider/decider/library/xpath/Move;"⟩ : MethodName) (head1 (Jvm.Cond.code (⟨"com/example/decider/decider/library/xpath/MoveUpwardPinLaw", "pick", "(I)Lcom/example/decider/decider/library/xpath/Move;"⟩ : MethodName) method_2_code 1 (some (.object "com/example/decider/decider/library/xpath/Move")) :: ws) ({ frames := 0, cells := 0, slots := 0, locals := 0 } : Room)) (fun a U => a = #[(.int (4 : Int32))] ∧ Z.Warmed39 U.vm ∧ U.heap = h0) (fun _ _ _ _ _ => True) (fun _ U o U' => ∃ v L, o = .returned v ∧ Qrm1_4 Z s_Move_TO_DOCUMENT h0 n0 v U'.heap L ∧ FrameEnd U o U' L ({ frames := 0, cells := 0, slots := 0, locals := 0 } : Room).cells ({ frames := 0, cells := 0, slots := 0, locals := 0 } : Room).slots) := by
  refine MetFree.of_bodySF (plainFor_of_name pn_0) hisR ?_
  intro p e s m args below meth c s₁ Bd hml0 hP hK
  obtain ⟨rfl, hZ, hh⟩ := hP
  have hx := Bd.exec
  have hby := Bd.bytes
  have hml : c.maxLocals = 1 := hml0
  have hown : s.vm.findClass "com/example/decider/decider/library/xpath/MoveUpwardPinLaw" = some m.cls := findClass_of_methodNamed Bd.named
  have hnm := (name_of_methodNamed Bd.named Bd.method).1
  have X0 : Stand p l e ({ frames := 0, cells := 0, slots := 0, locals := 0 } : Room) s m #[(.int (4 : Int32))] below meth c s₁ [] 0 0 := Stand.of_body Bd
  have e0 : s₁.heap = h0 := by rw [← hh, Bd.state]; rfl
  have N0 := Fr.nil n0
  have K0 : Keep h0 h0 [] := Keep.refl h0 _
  refine own_go (B := s₁.setTop (mkF m 0 #[.val (.int (4 : Int32))] [])) (fun t k => castTop (efrm1_4 m ) k) ?_
  refine own_go (A := s₁.setTop (mkF m 0 #[.val (.int (4 : Int32))] [])) (B := s₁.setTop (mkF m 40 #[.val (.int (4 : Int32))] [])) (fun t k => ?_) ?_
  · show Steps p.tables e below (s₁.setTop (mkF m 0 #[.val (.int (4 : Int32))] [])) _
    refine XS.iloadN X0.here hx rfl (hb hby d1_0) rfl ?_
    show Steps p.tables e below (s₁.setTop (mkF m 1 #[.val (.int (4 : Int32))] [(.int (4 : Int32))])) _
    refine XS.ifYes X0.here hx rfl (pc0 := 1) (pc' := 8) rfl (hb hby d1_1) rfl ((if0 _ _).trans (feq (by decide : ¬ ((4 : Int32) = (0 : Int32)))).2) (by decide) (by decide) ?_
    show Steps p.tables e below (s₁.setTop (mkF m 8 #[.val (.int (4 : Int32))] [])) _
    refine XS.iloadN X0.here hx rfl (hb hby d1_8) rfl ?_
    show Steps p.tables e below (s₁.setTop (mkF m 9 #[.val (.int (4 : Int32))] [(.int (4 : Int32))])) _
    refine XS.iconst X0.here hx rfl (hb hby d1_9) ?_
    show Steps p.tables e below (s₁.setTop (mkF m 10 #[.val (.int (4 : Int32))] [(.int (1 : Int32)), (.int (4 : Int32))])) _
    refine XS.icmpYes X0.here hx rfl (pc0 := 10) (pc' := 17) rfl (hb hby d1_10) rfl (feq (by decide : ¬ ((4 : Int32) = (1 : Int32)))).2 (by decide) (by decide) ?_
    show Steps p.tables e below (s₁.setTop (mkF m 17 #[.val (.int (4 : Int32))] [])) _
    refine XS.iloadN X0.here hx rfl (hb hby d1_17) rfl ?_
    show Steps p.tables e below (s₁.setTop (mkF m 18 #[.val (.int (4 : Int32))] [(.int (4 : Int32))])) _
    refine XS.iconst X0.here hx rfl (hb hby d1_18) ?_
    show Steps p.tables e below (s₁.setTop (mkF m 19 #[.val (.int (4 : Int32))] [(.int (2 : Int32)), (.int (4 : Int32))])) _
    refine XS.icmpYes X0.here hx rfl (pc0 := 19) (pc' := 26) rfl (hb hby d1_19) rfl (feq (by decide : ¬ ((4 : Int32) = (2 : Int32)))).2 (by decide) (by decide) ?_
    show Steps p.tables e below (s₁.setTop (mkF m 26 #[.val (.int (4 : Int32))] [])) _
    refine XS.iloadN X0.here hx rfl (hb hby d1_26) rfl ?_
    show Steps p.tables e below (s₁.setTop (mkF m 27 #[.val (.int (4 : Int32))] [(.int (4 : Int32))])) _
    refine XS.iconst X0.here hx rfl (hb hby d1_27) ?_
    show Steps p.tables e below (s₁.setTop (mkF m 28 #[.val (.int (4 : Int32))] [(.int (3 : Int32)), (.int (4 : Int32))])) _
    refine XS.icmpYes X0.here hx rfl (pc0 := 28) (pc' := 35) rfl (hb hby d1_28) rfl (feq (by decide : ¬ ((4 : Int32) = (3 : Int32)))).2 (by decide) (by decide) ?_
    show Steps p.tables e below (s₁.setTop (mkF m 35 #[.val (.int (4 : Int32))] [])) _
    refine XS.iloadN X0.here hx rfl (hb hby d1_35) rfl ?_
    show Steps p.tables e below (s₁.setTop (mkF m 36 #[.val (.int (4 : Int32))] [(.int (4 : Int32))])) _
    refine XS.iconst X0.here hx rfl (hb hby d1_36) ?_
    show Steps p.tables e below (s₁.setTop (mkF m 37 #[.val (.int (4 : Int32))] [(.int (4 : Int32)), (.int (4 : Int32))])) _
    refine XS.icmpNo X0.here hx rfl (hb hby d1_37) rfl (teq (rfl : (4 : Int32) = (4 : Int32))).2 ?_
    exact k
  obtain ⟨T20, X20, e20, st20⟩ := getS2 X0 hx hZ hown (host := "") (Or.inl (hw _ (List.mem_of_getElem? (i := 98) rfl))) Via.refl e0 P0 (g := (mkF m 40 #[.val (.int (4 : Int32))] [])) rfl (hb hby d1_40)
  refine own_go st20 ?_
  obtain ⟨fs, hr, hrun, hended, hW, hsame⟩ := X20.leave (v := some (.ref s_Move_TO_DOCUMENT)) (fun h => by rw [Bd.returns] at h; cases h)
  refine ⟨_, _, ?_, hrun, hended, _, _, rfl, ?_, ⟨_, rfl⟩, hW, hsame.mono (by decide) (by decide)⟩
  · show Steps p.tables e below (T20.setTop (mkF m 43 #[.val (.int (4 : Int32))] [(.ref s_Move_TO_DOCUMENT)])) _
    exact retOut X20 hx Bd.returns rfl (Or.inr (Or.inr (Or.inr (Or.inr ⟨rfl, rfl, rfl⟩)))) (hb hby d1_43) hr
  · show Qrm1_4 Z s_Move_TO_DOCUMENT h0 n0 _ T20.heap _
    rw [e20]
    exact ⟨rfl, N0, rfl⟩
def Qrm1_5 (Z : State) (s_Move_FROM_DOCUMENT : Addr) (h0 : Heap) (n0 : Nat) (v : Option Value) (h : Heap) (L : List Loc) : Prop := v = some (.ref s_Move_FROM_DOCUMENT) ∧ Fr n0 L ∧ h = h0
theorem efrm1_5 (m : MethodId)  : entryFrame m #[(.int (5 : Int32))] 1 = mkF m 0 #[.val (.int (5 : Int32))] [] := by first | (simp [entryFrame, mkF, argsToLocals, Value.category]; done) | rfl
set_option maxRecDepth 65536 in
set_option maxHeartbeats 40000000 in
theorem rm1_5 (l : Launch) (Z : State) (a0 : Array Value) (hw : ∀ d ∈ tables_1, d.before a0 Z = true) (ws : List Jvm.Cond) (s_Move_FROM_DOCUMENT : Addr) (h0 : Heap) (n0 : Nat) (Z0 : n0 ≤ h0.size) (P0 : Sta Z h0 "com/example/decider/decider/library/xpath/Move" "FROM_DOCUMENT" "Lcom/example/decider/decider/library/xpath/Move;" (.ref s_Move_FROM_DOCUMENT)) :
    MetFree l (⟨"com/example/decider/decider/library/xpath/MoveUpwardPinLaw", "pick", "(I)Lcom/example/decider/decider/library/xpath/Move;"⟩ : MethodName) (head1 (Jvm.Cond.code (⟨"com/example/decider/decider/library/xpath/MoveUpwardPinLaw", "pick", "(I)Lcom/example/decider/decider/library/xpath/Move;"⟩ : MethodName) method_2_code 1 (some (.object "com/example/decider/decider/library/xpath/Move")) :: ws) ({ frames := 0, cells := 0, slots := 0, locals := 0 } : Room)) (fun a U => a = #[(.int (5 : Int32))] ∧ Z.Warmed39 U.vm ∧ U.heap = h0) (fun _ _ _ _ _ => True) (fun _ U o U' => ∃ v L, o = .returned v ∧ Qrm1_5 Z s_Move_FROM_DOCUMENT h0 n0 v U'.heap L ∧ FrameEnd U o U' L ({ frames := 0, cells := 0, slots := 0, locals := 0 } : Room).cells ({ frames := 0, cells := 0, slots := 0, locals := 0 } : Room).slots) := by
  refine MetFree.of_bodySF (plainFor_of_name pn_0) hisR ?_
  intro p e s m args below meth c s₁ Bd hml0 hP hK
  obtain ⟨rfl, hZ, hh⟩ := hP
  have hx := Bd.exec
  have hby := Bd.bytes
  have hml : c.maxLocals = 1 := hml0
  have hown : s.vm.findClass "com/example/decider/decider/library/xpath/MoveUpwardPinLaw" = some m.cls := findClass_of_methodNamed Bd.named
  have hnm := (name_of_methodNamed Bd.named Bd.method).1
  have X0 : Stand p l e ({ frames := 0, cells := 0, slots := 0, locals := 0 } : Room) s m #[(.int (5 : Int32))] below meth c s₁ [] 0 0 := Stand.of_body Bd
  have e0 : s₁.heap = h0 := by rw [← hh, Bd.state]; rfl
  have N0 := Fr.nil n0
  have K0 : Keep h0 h0 [] := Keep.refl h0 _
  refine own_go (B := s₁.setTop (mkF m 0 #[.val (.int (5 : Int32))] [])) (fun t k => castTop (efrm1_5 m ) k) ?_
  refine own_go (A := s₁.setTop (mkF m 0 #[.val (.int (5 : Int32))] [])) (B := s₁.setTop (mkF m 44 #[.val (.int (5 : Int32))] [])) (fun t k => ?_) ?_
  · show Steps p.tables e below (s₁.setTop (mkF m 0 #[.val (.int (5 : Int32))] [])) _
    refine XS.iloadN X0.here hx rfl (hb hby d1_0) rfl ?_
    show Steps p.tables e below (s₁.setTop (mkF m 1 #[.val (.int (5 : Int32))] [(.int (5 : Int32))])) _
    refine XS.ifYes X0.here hx rfl (pc0 := 1) (pc' := 8) rfl (hb hby d1_1) rfl ((if0 _ _).trans (feq (by decide : ¬ ((5 : Int32) = (0 : Int32)))).2) (by decide) (by decide) ?_
    show Steps p.tables e below (s₁.setTop (mkF m 8 #[.val (.int (5 : Int32))] [])) _
    refine XS.iloadN X0.here hx rfl (hb hby d1_8) rfl ?_
    show Steps p.tables e below (s₁.setTop (mkF m 9 #[.val (.int (5 : Int32))] [(.int (5 : Int32))])) _
    refine XS.iconst X0.here hx rfl (hb hby d1_9) ?_
    show Steps p.tables e below (s₁.setTop (mkF m 10 #[.val (.int (5 : Int32))] [(.int (1 : Int32)), (.int (5 : Int32))])) _
    refine XS.icmpYes X0.here hx rfl (pc0 := 10) (pc' := 17) rfl (hb hby d1_10) rfl (feq (by decide : ¬ ((5 : Int32) = (1 : Int32)))).2 (by decide) (by decide) ?_
    show Steps p.tables e below (s₁.setTop (mkF m 17 #[.val (.int (5 : Int32))] [])) _
    refine XS.iloadN X0.here hx rfl (hb hby d1_17) rfl ?_
    show Steps p.tables e below (s₁.setTop (mkF m 18 #[.val (.int (5 : Int32))] [(.int (5 : Int32))])) _
    refine XS.iconst X0.here hx rfl (hb hby d1_18) ?_
    show Steps p.tables e below (s₁.setTop (mkF m 19 #[.val (.int (5 : Int32))] [(.int (2 : Int32)), (.int (5 : Int32))])) _
    refine XS.icmpYes X0.here hx rfl (pc0 := 19) (pc' := 26) rfl (hb hby d1_19) rfl (feq (by decide : ¬ ((5 : Int32) = (2 : Int32)))).2 (by decide) (by decide) ?_
    show Steps p.tables e below (s₁.setTop (mkF m 26 #[.val (.int (5 : Int32))] [])) _
    refine XS.iloadN X0.here hx rfl (hb hby d1_26) rfl ?_
    show Steps p.tables e below (s₁.setTop (mkF m 27 #[.val (.int (5 : Int32))] [(.int (5 : Int32))])) _
    refine XS.iconst X0.here hx rfl (hb hby d1_27) ?_
    show Steps p.tables e below (s₁.setTop (mkF m 28 #[.val (.int (5 : Int32))] [(.int (3 : Int32)), (.int (5 : Int32))])) _
    refine XS.icmpYes X0.here hx rfl (pc0 := 28) (pc' := 35) rfl (hb hby d1_28) rfl (feq (by decide : ¬ ((5 : Int32) = (3 : Int32)))).2 (by decide) (by decide) ?_
    show Steps p.tables e below (s₁.setTop (mkF m 35 #[.val (.int (5 : Int32))] [])) _
    refine XS.iloadN X0.here hx rfl (hb hby d1_35) rfl ?_
    show Steps p.tables e below (s₁.setTop (mkF m 36 #[.val (.int (5 : Int32))] [(.int (5 : Int32))])) _
    refine XS.iconst X0.here hx rfl (hb hby d1_36) ?_
    show Steps p.tables e below (s₁.setTop (mkF m 37 #[.val (.int (5 : Int32))] [(.int (4 : Int32)), (.int (5 : Int32))])) _
    refine XS.icmpYes X0.here hx rfl (pc0 := 37) (pc' := 44) rfl (hb hby d1_37) rfl (feq (by decide : ¬ ((5 : Int32) = (4 : Int32)))).2 (by decide) (by decide) ?_
    exact k
  obtain ⟨T26, X26, e26, st26⟩ := getS2 X0 hx hZ hown (host := "") (Or.inl (hw _ (List.mem_of_getElem? (i := 96) rfl))) Via.refl e0 P0 (g := (mkF m 44 #[.val (.int (5 : Int32))] [])) rfl (hb hby d1_44)
  refine own_go st26 ?_
  obtain ⟨fs, hr, hrun, hended, hW, hsame⟩ := X26.leave (v := some (.ref s_Move_FROM_DOCUMENT)) (fun h => by rw [Bd.returns] at h; cases h)
  refine ⟨_, _, ?_, hrun, hended, _, _, rfl, ?_, ⟨_, rfl⟩, hW, hsame.mono (by decide) (by decide)⟩
  · show Steps p.tables e below (T26.setTop (mkF m 47 #[.val (.int (5 : Int32))] [(.ref s_Move_FROM_DOCUMENT)])) _
    exact retOut X26 hx Bd.returns rfl (Or.inr (Or.inr (Or.inr (Or.inr ⟨rfl, rfl, rfl⟩)))) (hb hby d1_47) hr
  · show Qrm1_5 Z s_Move_FROM_DOCUMENT h0 n0 _ T26.heap _
    rw [e26]
    exact ⟨rfl, N0, rfl⟩
def frm2 (a1 : Addr) (s_Move_CONVERSE_FIRST_CHILD : Addr) (s_Move_CONVERSE_NEXT_SIBLING : Addr) (s_Move_TO_DOCUMENT : Addr) : Int32 := (if a1 = s_Move_CONVERSE_FIRST_CHILD then (1 : Int32) else (if a1 = s_Move_CONVERSE_NEXT_SIBLING then (1 : Int32) else (if a1 = s_Move_TO_DOCUMENT then (1 : Int32) else (0 : Int32))))
def Qrm2 (Z : State) (a1 : Addr) (s_Move_CONVERSE_FIRST_CHILD : Addr) (s_Move_CONVERSE_NEXT_SIBLING : Addr) (s_Move_TO_DOCUMENT : Addr) (h0 : Heap) (n0 : Nat) (v : Option Value) (h : Heap) (L : List Loc) : Prop := v = some (.int (frm2 a1 s_Move_CONVERSE_FIRST_CHILD s_Move_CONVERSE_NEXT_SIBLING s_Move_TO_DOCUMENT)) ∧ Fr n0 L ∧ h = h0
theorem efrm2 (m : MethodId) (x0 : Addr) : entryFrame m #[(.ref x0)] 1 = mkF m 0 #[.val (.ref x0)] [] := by first | (simp [entryFrame, mkF, argsToLocals, Value.category]; done) | rfl
set_option maxRecDepth 65536 in
set_option maxHeartbeats 40000000 in
theorem rm2 (l : Launch) (Z : State) (a0 : Array Value) (hw : ∀ d ∈ tables_1, d.before a0 Z = true) (ws : List Jvm.Cond) (a1 : Addr) (s_Move_CONVERSE_FIRST_CHILD : Addr) (s_Move_CONVERSE_NEXT_SIBLING : Addr) (s_Move_TO_DOCUMENT : Addr) (h0 : Heap) (n0 : Nat) (Z0 : n0 ≤ h0.size) (P0 : Sta Z h0 "com/example/decider/decider/library/xpath/Move" "CONVERSE_FIRST_CHILD" "Lcom/example/decider/decider/library/xpath/Move;" (.ref s_Move_CONVERSE_FIRST_CHILD)) (P1 : Sta Z h0 "com/example/decider/decider/library/xpath/Move" "CONVERSE_NEXT_SIBLING" "Lcom/example/decider/decider/library/xpath/Move;" (.ref s_Move_CONVERSE_NEXT_SIBLING)) (P2 : Sta Z h0 "com/example/decider/decider/library/xpath/Move" "TO_DOCUMENT" "Lcom/example/decider/decider/library/xpath/Move;" (.ref s_Move_TO_DOCUMENT)) :
    MetFree l (⟨"com/example/decider/decider/library/xpath/Move", "upward", "()Z"⟩ : MethodName) (head1 (Jvm.Cond.code (⟨"com/example/decider/decider/library/xpath/Move", "upward", "()Z"⟩ : MethodName) prog_85_method_6_code 1 (some .boolean) :: ws) ({ frames := 0, cells := 0, slots := 0, locals := 0 } : Room)) (fun a U => a = #[(.ref a1)] ∧ Z.Warmed39 U.vm ∧ U.heap = h0) (fun _ _ _ _ _ => True) (fun _ U o U' => ∃ v L, o = .returned v ∧ Qrm2 Z a1 s_Move_CONVERSE_FIRST_CHILD s_Move_CONVERSE_NEXT_SIBLING s_Move_TO_DOCUMENT h0 n0 v U'.heap L ∧ FrameEnd U o U' L ({ frames := 0, cells := 0, slots := 0, locals := 0 } : Room).cells ({ frames := 0, cells := 0, slots := 0, locals := 0 } : Room).slots) := by
  refine MetFree.of_bodySF (plainFor_of_name pn_1) hisR ?_
  intro p e s m args below meth c s₁ Bd hml0 hP hK
  obtain ⟨rfl, hZ, hh⟩ := hP
  have hx := Bd.exec
  have hby := Bd.bytes
  have hml : c.maxLocals = 1 := hml0
  have hown : s.vm.findClass "com/example/decider/decider/library/xpath/Move" = some m.cls := findClass_of_methodNamed Bd.named
  have hnm := (name_of_methodNamed Bd.named Bd.method).1
  have X0 : Stand p l e ({ frames := 0, cells := 0, slots := 0, locals := 0 } : Room) s m #[(.ref a1)] below meth c s₁ [] 0 0 := Stand.of_body Bd
  have e0 : s₁.heap = h0 := by rw [← hh, Bd.state]; rfl
  have N0 := Fr.nil n0
  have K0 : Keep h0 h0 [] := Keep.refl h0 _
  refine own_go (B := s₁.setTop (mkF m 0 #[.val (.ref a1)] [])) (fun t k => castTop (efrm2 m a1) k) ?_
  refine own_go (A := s₁.setTop (mkF m 0 #[.val (.ref a1)] [])) (B := s₁.setTop (mkF m 1 #[.val (.ref a1)] [(.ref a1)])) (fun t k => ?_) ?_
  · show Steps p.tables e below (s₁.setTop (mkF m 0 #[.val (.ref a1)] [])) _
    refine XS.aloadN X0.here hx rfl (hb hby d2_0) rfl rfl ?_
    exact k
  obtain ⟨T27, X27, e27, st27⟩ := getS2 X0 hx hZ hown (host := "") (Or.inl (hw _ (List.mem_of_getElem? (i := 13) rfl))) Via.refl e0 P0 (g := (mkF m 1 #[.val (.ref a1)] [(.ref a1)])) rfl (hb hby d2_1)
  refine own_go st27 ?_
  by_cases hc4_28 : a1 = s_Move_CONVERSE_FIRST_CHILD
  · refine own_go (A := T27.setTop (mkF m 4 #[.val (.ref a1)] [(.ref s_Move_CONVERSE_FIRST_CHILD), (.ref a1)])) (B := T27.setTop (mkF m 21 #[.val (.ref a1)] [])) (fun t k => ?_) ?_
    · show Steps p.tables e below (T27.setTop (mkF m 4 #[.val (.ref a1)] [(.ref s_Move_CONVERSE_FIRST_CHILD), (.ref a1)])) _
      refine Jvm.RoadKit.acmp (g := (mkF m 4 #[.val (.ref a1)] [(.ref s_Move_CONVERSE_FIRST_CHILD), (.ref a1)])) X27 hx rfl rfl rfl (pc0 := 4) (pc' := 21) (same := true) rfl (hb hby d2_4) rfl (decide_eq_true (congrArg Value.ref hc4_28)) (by decide) (by decide) ?_
      exact k
    refine own_go (A := T27.setTop (mkF m 21 #[.val (.ref a1)] [])) (B := T27.setTop (mkF m 26 #[.val (.ref a1)] [(.int (1 : Int32))])) (fun t k => ?_) ?_
    · show Steps p.tables e below (T27.setTop (mkF m 21 #[.val (.ref a1)] [])) _
      refine XS.iconst X27.here hx rfl (hb hby d2_21) ?_
      show Steps p.tables e below (T27.setTop (mkF m 22 #[.val (.ref a1)] [(.int (1 : Int32))])) _
      refine XS.goto X27.here hx rfl (pc0 := 22) (pc' := 26) rfl (hb hby d2_22) (by decide) (by decide) ?_
      exact k
    obtain ⟨fs, hr, hrun, hended, hW, hsame⟩ := X27.leave (v := some (.int (1 : Int32))) (fun h => by rw [Bd.returns] at h; cases h)
    refine ⟨_, _, ?_, hrun, hended, _, _, rfl, ?_, ⟨_, rfl⟩, hW, hsame.mono (by decide) (by decide)⟩
    · show Steps p.tables e below (T27.setTop (mkF m 26 #[.val (.ref a1)] [(.int (1 : Int32))])) _
      exact retN X27 hx (t := .boolean) Bd.returns (by simp) (hb hby d2_26) hr
    · show Qrm2 Z a1 s_Move_CONVERSE_FIRST_CHILD s_Move_CONVERSE_NEXT_SIBLING s_Move_TO_DOCUMENT h0 n0 _ T27.heap _
      rw [e27]
      exact ⟨(by simp only [frm2, if_pos hc4_28]), N0, rfl⟩
  · refine own_go (A := T27.setTop (mkF m 4 #[.val (.ref a1)] [(.ref s_Move_CONVERSE_FIRST_CHILD), (.ref a1)])) (B := T27.setTop (mkF m 7 #[.val (.ref a1)] [])) (fun t k => ?_) ?_
    · show Steps p.tables e below (T27.setTop (mkF m 4 #[.val (.ref a1)] [(.ref s_Move_CONVERSE_FIRST_CHILD), (.ref a1)])) _
      refine Jvm.RoadKit.acmp (g := (mkF m 4 #[.val (.ref a1)] [(.ref s_Move_CONVERSE_FIRST_CHILD), (.ref a1)])) X27 hx rfl rfl rfl (pc0 := 4) (pc' := 7) (same := false) rfl (hb hby d2_4) rfl (decide_eq_false fun q => hc4_28 (Value.ref.inj q)) (by decide) (by decide) ?_
      exact k
    refine own_go (A := T27.setTop (mkF m 7 #[.val (.ref a1)] [])) (B := T27.setTop (mkF m 8 #[.val (.ref a1)] [(.ref a1)])) (fun t k => ?_) ?_
    · show Steps p.tables e below (T27.setTop (mkF m 7 #[.val (.ref a1)] [])) _
      refine XS.aloadN X27.here hx rfl (hb hby d2_7) rfl rfl ?_
      exact k
    obtain ⟨T29, X29, e29, st29⟩ := getS2 X27 hx hZ hown (host := "") (Or.inl (hw _ (List.mem_of_getElem? (i := 15) rfl))) Via.refl e27 P1 (g := (mkF m 8 #[.val (.ref a1)] [(.ref a1)])) rfl (hb hby d2_8)
    refine own_go st29 ?_
    by_cases hc11_30 : a1 = s_Move_CONVERSE_NEXT_SIBLING
    · refine own_go (A := T29.setTop (mkF m 11 #[.val (.ref a1)] [(.ref s_Move_CONVERSE_NEXT_SIBLING), (.ref a1)])) (B := T29.setTop (mkF m 21 #[.val (.ref a1)] [])) (fun t k => ?_) ?_
      · show Steps p.tables e below (T29.setTop (mkF m 11 #[.val (.ref a1)] [(.ref s_Move_CONVERSE_NEXT_SIBLING), (.ref a1)])) _
        refine Jvm.RoadKit.acmp (g := (mkF m 11 #[.val (.ref a1)] [(.ref s_Move_CONVERSE_NEXT_SIBLING), (.ref a1)])) X29 hx rfl rfl rfl (pc0 := 11) (pc' := 21) (same := true) rfl (hb hby d2_11) rfl (decide_eq_true (congrArg Value.ref hc11_30)) (by decide) (by decide) ?_
        exact k
      refine own_go (A := T29.setTop (mkF m 21 #[.val (.ref a1)] [])) (B := T29.setTop (mkF m 26 #[.val (.ref a1)] [(.int (1 : Int32))])) (fun t k => ?_) ?_
      · show Steps p.tables e below (T29.setTop (mkF m 21 #[.val (.ref a1)] [])) _
        refine XS.iconst X29.here hx rfl (hb hby d2_21) ?_
        show Steps p.tables e below (T29.setTop (mkF m 22 #[.val (.ref a1)] [(.int (1 : Int32))])) _
        refine XS.goto X29.here hx rfl (pc0 := 22) (pc' := 26) rfl (hb hby d2_22) (by decide) (by decide) ?_
        exact k
      obtain ⟨fs, hr, hrun, hended, hW, hsame⟩ := X29.leave (v := some (.int (1 : Int32))) (fun h => by rw [Bd.returns] at h; cases h)
      refine ⟨_, _, ?_, hrun, hended, _, _, rfl, ?_, ⟨_, rfl⟩, hW, hsame.mono (by decide) (by decide)⟩
      · show Steps p.tables e below (T29.setTop (mkF m 26 #[.val (.ref a1)] [(.int (1 : Int32))])) _
        exact retN X29 hx (t := .boolean) Bd.returns (by simp) (hb hby d2_26) hr
      · show Qrm2 Z a1 s_Move_CONVERSE_FIRST_CHILD s_Move_CONVERSE_NEXT_SIBLING s_Move_TO_DOCUMENT h0 n0 _ T29.heap _
        rw [e29]
        exact ⟨(by simp only [frm2, if_neg hc4_28, if_pos hc11_30]), N0, rfl⟩
    · refine own_go (A := T29.setTop (mkF m 11 #[.val (.ref a1)] [(.ref s_Move_CONVERSE_NEXT_SIBLING), (.ref a1)])) (B := T29.setTop (mkF m 14 #[.val (.ref a1)] [])) (fun t k => ?_) ?_
      · show Steps p.tables e below (T29.setTop (mkF m 11 #[.val (.ref a1)] [(.ref s_Move_CONVERSE_NEXT_SIBLING), (.ref a1)])) _
        refine Jvm.RoadKit.acmp (g := (mkF m 11 #[.val (.ref a1)] [(.ref s_Move_CONVERSE_NEXT_SIBLING), (.ref a1)])) X29 hx rfl rfl rfl (pc0 := 11) (pc' := 14) (same := false) rfl (hb hby d2_11) rfl (decide_eq_false fun q => hc11_30 (Value.ref.inj q)) (by decide) (by decide) ?_
        exact k
      refine own_go (A := T29.setTop (mkF m 14 #[.val (.ref a1)] [])) (B := T29.setTop (mkF m 15 #[.val (.ref a1)] [(.ref a1)])) (fun t k => ?_) ?_
      · show Steps p.tables e below (T29.setTop (mkF m 14 #[.val (.ref a1)] [])) _
        refine XS.aloadN X29.here hx rfl (hb hby d2_14) rfl rfl ?_
        exact k
      obtain ⟨T31, X31, e31, st31⟩ := getS2 X29 hx hZ hown (host := "") (Or.inl (hw _ (List.mem_of_getElem? (i := 17) rfl))) Via.refl e29 P2 (g := (mkF m 15 #[.val (.ref a1)] [(.ref a1)])) rfl (hb hby d2_15)
      refine own_go st31 ?_
      by_cases hc18_32 : a1 = s_Move_TO_DOCUMENT
      · refine own_go (A := T31.setTop (mkF m 18 #[.val (.ref a1)] [(.ref s_Move_TO_DOCUMENT), (.ref a1)])) (B := T31.setTop (mkF m 21 #[.val (.ref a1)] [])) (fun t k => ?_) ?_
        · show Steps p.tables e below (T31.setTop (mkF m 18 #[.val (.ref a1)] [(.ref s_Move_TO_DOCUMENT), (.ref a1)])) _
          refine Jvm.RoadKit.acmp (g := (mkF m 18 #[.val (.ref a1)] [(.ref s_Move_TO_DOCUMENT), (.ref a1)])) X31 hx rfl rfl rfl (pc0 := 18) (pc' := 21) (same := true) rfl (hb hby d2_18) rfl (decide_eq_true (congrArg Value.ref hc18_32)) (by decide) (by decide) ?_
          exact k
        refine own_go (A := T31.setTop (mkF m 21 #[.val (.ref a1)] [])) (B := T31.setTop (mkF m 26 #[.val (.ref a1)] [(.int (1 : Int32))])) (fun t k => ?_) ?_
        · show Steps p.tables e below (T31.setTop (mkF m 21 #[.val (.ref a1)] [])) _
          refine XS.iconst X31.here hx rfl (hb hby d2_21) ?_
          show Steps p.tables e below (T31.setTop (mkF m 22 #[.val (.ref a1)] [(.int (1 : Int32))])) _
          refine XS.goto X31.here hx rfl (pc0 := 22) (pc' := 26) rfl (hb hby d2_22) (by decide) (by decide) ?_
          exact k
        obtain ⟨fs, hr, hrun, hended, hW, hsame⟩ := X31.leave (v := some (.int (1 : Int32))) (fun h => by rw [Bd.returns] at h; cases h)
        refine ⟨_, _, ?_, hrun, hended, _, _, rfl, ?_, ⟨_, rfl⟩, hW, hsame.mono (by decide) (by decide)⟩
        · show Steps p.tables e below (T31.setTop (mkF m 26 #[.val (.ref a1)] [(.int (1 : Int32))])) _
          exact retN X31 hx (t := .boolean) Bd.returns (by simp) (hb hby d2_26) hr
        · show Qrm2 Z a1 s_Move_CONVERSE_FIRST_CHILD s_Move_CONVERSE_NEXT_SIBLING s_Move_TO_DOCUMENT h0 n0 _ T31.heap _
          rw [e31]
          exact ⟨(by simp only [frm2, if_neg hc4_28, if_neg hc11_30, if_pos hc18_32]), N0, rfl⟩
      · refine own_go (A := T31.setTop (mkF m 18 #[.val (.ref a1)] [(.ref s_Move_TO_DOCUMENT), (.ref a1)])) (B := T31.setTop (mkF m 25 #[.val (.ref a1)] [])) (fun t k => ?_) ?_
        · show Steps p.tables e below (T31.setTop (mkF m 18 #[.val (.ref a1)] [(.ref s_Move_TO_DOCUMENT), (.ref a1)])) _
          refine Jvm.RoadKit.acmp (g := (mkF m 18 #[.val (.ref a1)] [(.ref s_Move_TO_DOCUMENT), (.ref a1)])) X31 hx rfl rfl rfl (pc0 := 18) (pc' := 25) (same := false) rfl (hb hby d2_18) rfl (decide_eq_false fun q => hc18_32 (Value.ref.inj q)) (by decide) (by decide) ?_
          exact k
        refine own_go (A := T31.setTop (mkF m 25 #[.val (.ref a1)] [])) (B := T31.setTop (mkF m 26 #[.val (.ref a1)] [(.int (0 : Int32))])) (fun t k => ?_) ?_
        · show Steps p.tables e below (T31.setTop (mkF m 25 #[.val (.ref a1)] [])) _
          refine XS.iconst X31.here hx rfl (hb hby d2_25) ?_
          exact k
        obtain ⟨fs, hr, hrun, hended, hW, hsame⟩ := X31.leave (v := some (.int (0 : Int32))) (fun h => by rw [Bd.returns] at h; cases h)
        refine ⟨_, _, ?_, hrun, hended, _, _, rfl, ?_, ⟨_, rfl⟩, hW, hsame.mono (by decide) (by decide)⟩
        · show Steps p.tables e below (T31.setTop (mkF m 26 #[.val (.ref a1)] [(.int (0 : Int32))])) _
          exact retN X31 hx (t := .boolean) Bd.returns (by simp) (hb hby d2_26) hr
        · show Qrm2 Z a1 s_Move_CONVERSE_FIRST_CHILD s_Move_CONVERSE_NEXT_SIBLING s_Move_TO_DOCUMENT h0 n0 _ T31.heap _
          rw [e31]
          exact ⟨(by simp only [frm2, if_neg hc4_28, if_neg hc11_30, if_neg hc18_32]), N0, rfl⟩
def Qrm3 (Z : State) (a1 : Addr) (w1 : Addr) (h0 : Heap) (n0 : Nat) (v : Option Value) (h : Heap) (L : List Loc) : Prop := v = some (.ref w1) ∧ Fr n0 L ∧ h = h0
theorem efrm3 (m : MethodId) (x0 : Addr) : entryFrame m #[(.ref x0)] 1 = mkF m 0 #[.val (.ref x0)] [] := by first | (simp [entryFrame, mkF, argsToLocals, Value.category]; done) | rfl
set_option maxRecDepth 65536 in
set_option maxHeartbeats 40000000 in
theorem rm3 (l : Launch) (Z : State) (a0 : Array Value) (hw : ∀ d ∈ tables_1, d.before a0 Z = true) (ws : List Jvm.Cond) (a1 : Addr) (w1 : Addr) (h0 : Heap) (n0 : Nat) (Z0 : n0 ≤ h0.size) (P0 : Fld Z h0 a1 "com/example/decider/decider/library/xpath/Move" "modality" "Lcom/example/decider/decider/logic/formula/Modality;" (.ref w1)) :
    MetFree l (⟨"com/example/decider/decider/library/xpath/Move", "modality", "()Lcom/example/decider/decider/logic/formula/Modality;"⟩ : MethodName) (head1 (Jvm.Cond.code (⟨"com/example/decider/decider/library/xpath/Move", "modality", "()Lcom/example/decider/decider/logic/formula/Modality;"⟩ : MethodName) prog_85_method_4_code 1 (some (.object "com/example/decider/decider/logic/formula/Modality")) :: ws) ({ frames := 0, cells := 0, slots := 0, locals := 0 } : Room)) (fun a U => a = #[(.ref a1)] ∧ Z.Warmed39 U.vm ∧ U.heap = h0) (fun _ _ _ _ _ => True) (fun _ U o U' => ∃ v L, o = .returned v ∧ Qrm3 Z a1 w1 h0 n0 v U'.heap L ∧ FrameEnd U o U' L ({ frames := 0, cells := 0, slots := 0, locals := 0 } : Room).cells ({ frames := 0, cells := 0, slots := 0, locals := 0 } : Room).slots) := by
  refine MetFree.of_bodySF (plainFor_of_name pn_1) hisR ?_
  intro p e s m args below meth c s₁ Bd hml0 hP hK
  obtain ⟨rfl, hZ, hh⟩ := hP
  have hx := Bd.exec
  have hby := Bd.bytes
  have hml : c.maxLocals = 1 := hml0
  have hown : s.vm.findClass "com/example/decider/decider/library/xpath/Move" = some m.cls := findClass_of_methodNamed Bd.named
  have hnm := (name_of_methodNamed Bd.named Bd.method).1
  have X0 : Stand p l e ({ frames := 0, cells := 0, slots := 0, locals := 0 } : Room) s m #[(.ref a1)] below meth c s₁ [] 0 0 := Stand.of_body Bd
  have e0 : s₁.heap = h0 := by rw [← hh, Bd.state]; rfl
  have N0 := Fr.nil n0
  have K0 : Keep h0 h0 [] := Keep.refl h0 _
  refine own_go (B := s₁.setTop (mkF m 0 #[.val (.ref a1)] [])) (fun t k => castTop (efrm3 m a1) k) ?_
  refine own_go (A := s₁.setTop (mkF m 0 #[.val (.ref a1)] [])) (B := s₁.setTop (mkF m 1 #[.val (.ref a1)] [(.ref a1)])) (fun t k => ?_) ?_
  · show Steps p.tables e below (s₁.setTop (mkF m 0 #[.val (.ref a1)] [])) _
    refine XS.aloadN X0.here hx rfl (hb hby d3_0) rfl rfl ?_
    exact k
  obtain ⟨T33, X33, e33, st33⟩ := getF X0 hx hZ hown (host := "") (Or.inl (hw _ (List.mem_of_getElem? (i := 24) rfl))) Via.refl e0 P0 (g := (mkF m 1 #[.val (.ref a1)] [(.ref a1)])) rfl rfl (hb hby d3_1)
  refine own_go st33 ?_
  obtain ⟨fs, hr, hrun, hended, hW, hsame⟩ := X33.leave (v := some (.ref w1)) (fun h => by rw [Bd.returns] at h; cases h)
  refine ⟨_, _, ?_, hrun, hended, _, _, rfl, ?_, ⟨_, rfl⟩, hW, hsame.mono (by decide) (by decide)⟩
  · show Steps p.tables e below (T33.setTop (mkF m 4 #[.val (.ref a1)] [(.ref w1)])) _
    exact retOut X33 hx Bd.returns rfl (Or.inr (Or.inr (Or.inr (Or.inr ⟨rfl, rfl, rfl⟩)))) (hb hby d3_4) hr
  · show Qrm3 Z a1 w1 h0 n0 _ T33.heap _
    rw [e33]
    exact ⟨rfl, N0, rfl⟩
def Qrm3n (Z : State) (a1 : Addr) (h0 : Heap) (n0 : Nat) (v : Option Value) (h : Heap) (L : List Loc) : Prop := v = some .null ∧ Fr n0 L ∧ h = h0
theorem efrm3n (m : MethodId) (x0 : Addr) : entryFrame m #[(.ref x0)] 1 = mkF m 0 #[.val (.ref x0)] [] := by first | (simp [entryFrame, mkF, argsToLocals, Value.category]; done) | rfl
set_option maxRecDepth 65536 in
set_option maxHeartbeats 40000000 in
theorem rm3n (l : Launch) (Z : State) (a0 : Array Value) (hw : ∀ d ∈ tables_1, d.before a0 Z = true) (ws : List Jvm.Cond) (a1 : Addr) (h0 : Heap) (n0 : Nat) (Z0 : n0 ≤ h0.size) (P0 : Fld Z h0 a1 "com/example/decider/decider/library/xpath/Move" "modality" "Lcom/example/decider/decider/logic/formula/Modality;" .null) :
    MetFree l (⟨"com/example/decider/decider/library/xpath/Move", "modality", "()Lcom/example/decider/decider/logic/formula/Modality;"⟩ : MethodName) (head1 (Jvm.Cond.code (⟨"com/example/decider/decider/library/xpath/Move", "modality", "()Lcom/example/decider/decider/logic/formula/Modality;"⟩ : MethodName) prog_85_method_4_code 1 (some (.object "com/example/decider/decider/logic/formula/Modality")) :: ws) ({ frames := 0, cells := 0, slots := 0, locals := 0 } : Room)) (fun a U => a = #[(.ref a1)] ∧ Z.Warmed39 U.vm ∧ U.heap = h0) (fun _ _ _ _ _ => True) (fun _ U o U' => ∃ v L, o = .returned v ∧ Qrm3n Z a1 h0 n0 v U'.heap L ∧ FrameEnd U o U' L ({ frames := 0, cells := 0, slots := 0, locals := 0 } : Room).cells ({ frames := 0, cells := 0, slots := 0, locals := 0 } : Room).slots) := by
  refine MetFree.of_bodySF (plainFor_of_name pn_1) hisR ?_
  intro p e s m args below meth c s₁ Bd hml0 hP hK
  obtain ⟨rfl, hZ, hh⟩ := hP
  have hx := Bd.exec
  have hby := Bd.bytes
  have hml : c.maxLocals = 1 := hml0
  have hown : s.vm.findClass "com/example/decider/decider/library/xpath/Move" = some m.cls := findClass_of_methodNamed Bd.named
  have hnm := (name_of_methodNamed Bd.named Bd.method).1
  have X0 : Stand p l e ({ frames := 0, cells := 0, slots := 0, locals := 0 } : Room) s m #[(.ref a1)] below meth c s₁ [] 0 0 := Stand.of_body Bd
  have e0 : s₁.heap = h0 := by rw [← hh, Bd.state]; rfl
  have N0 := Fr.nil n0
  have K0 : Keep h0 h0 [] := Keep.refl h0 _
  refine own_go (B := s₁.setTop (mkF m 0 #[.val (.ref a1)] [])) (fun t k => castTop (efrm3n m a1) k) ?_
  refine own_go (A := s₁.setTop (mkF m 0 #[.val (.ref a1)] [])) (B := s₁.setTop (mkF m 1 #[.val (.ref a1)] [(.ref a1)])) (fun t k => ?_) ?_
  · show Steps p.tables e below (s₁.setTop (mkF m 0 #[.val (.ref a1)] [])) _
    refine XS.aloadN X0.here hx rfl (hb hby d3_0) rfl rfl ?_
    exact k
  obtain ⟨T34, X34, e34, st34⟩ := getF X0 hx hZ hown (host := "") (Or.inl (hw _ (List.mem_of_getElem? (i := 24) rfl))) Via.refl e0 P0 (g := (mkF m 1 #[.val (.ref a1)] [(.ref a1)])) rfl rfl (hb hby d3_1)
  refine own_go st34 ?_
  obtain ⟨fs, hr, hrun, hended, hW, hsame⟩ := X34.leave (v := some .null) (fun h => by rw [Bd.returns] at h; cases h)
  refine ⟨_, _, ?_, hrun, hended, _, _, rfl, ?_, ⟨_, rfl⟩, hW, hsame.mono (by decide) (by decide)⟩
  · show Steps p.tables e below (T34.setTop (mkF m 4 #[.val (.ref a1)] [.null])) _
    exact retOut X34 hx Bd.returns rfl (Or.inr (Or.inr (Or.inr (Or.inr ⟨rfl, rfl, rfl⟩)))) (hb hby d3_4) hr
  · show Qrm3n Z a1 h0 n0 _ T34.heap _
    rw [e34]
    exact ⟨rfl, N0, rfl⟩
def Qrm4 (Z : State) (a1 : Addr) (w1 : Addr) (h0 : Heap) (n0 : Nat) (v : Option Value) (h : Heap) (L : List Loc) : Prop := v = some (.ref w1) ∧ Fr n0 L ∧ h = h0
theorem efrm4 (m : MethodId) (x0 : Addr) : entryFrame m #[(.ref x0)] 1 = mkF m 0 #[.val (.ref x0)] [] := by first | (simp [entryFrame, mkF, argsToLocals, Value.category]; done) | rfl
set_option maxRecDepth 65536 in
set_option maxHeartbeats 40000000 in
theorem rm4 (l : Launch) (Z : State) (a0 : Array Value) (hw : ∀ d ∈ tables_1, d.before a0 Z = true) (ws : List Jvm.Cond) (a1 : Addr) (w1 : Addr) (h0 : Heap) (n0 : Nat) (Z0 : n0 ≤ h0.size) (P0 : Fld Z h0 a1 "com/example/decider/decider/logic/formula/Modality" "spelling" "Ljava/lang/String;" (.ref w1)) :
    MetFree l (⟨"com/example/decider/decider/logic/formula/Modality", "spelling", "()Ljava/lang/String;"⟩ : MethodName) (head1 (Jvm.Cond.code (⟨"com/example/decider/decider/logic/formula/Modality", "spelling", "()Ljava/lang/String;"⟩ : MethodName) prog_138_method_5_code 1 (some (.object "java/lang/String")) :: ws) ({ frames := 0, cells := 0, slots := 0, locals := 0 } : Room)) (fun a U => a = #[(.ref a1)] ∧ Z.Warmed39 U.vm ∧ U.heap = h0) (fun _ _ _ _ _ => True) (fun _ U o U' => ∃ v L, o = .returned v ∧ Qrm4 Z a1 w1 h0 n0 v U'.heap L ∧ FrameEnd U o U' L ({ frames := 0, cells := 0, slots := 0, locals := 0 } : Room).cells ({ frames := 0, cells := 0, slots := 0, locals := 0 } : Room).slots) := by
  refine MetFree.of_bodySF (plainFor_of_name pn_2) hisR ?_
  intro p e s m args below meth c s₁ Bd hml0 hP hK
  obtain ⟨rfl, hZ, hh⟩ := hP
  have hx := Bd.exec
  have hby := Bd.bytes
  have hml : c.maxLocals = 1 := hml0
  have hown : s.vm.findClass "com/example/decider/decider/logic/formula/Modality" = some m.cls := findClass_of_methodNamed Bd.named
  have hnm := (name_of_methodNamed Bd.named Bd.method).1
  have X0 : Stand p l e ({ frames := 0, cells := 0, slots := 0, locals := 0 } : Room) s m #[(.ref a1)] below meth c s₁ [] 0 0 := Stand.of_body Bd
  have e0 : s₁.heap = h0 := by rw [← hh, Bd.state]; rfl
  have N0 := Fr.nil n0
  have K0 : Keep h0 h0 [] := Keep.refl h0 _
  refine own_go (B := s₁.setTop (mkF m 0 #[.val (.ref a1)] [])) (fun t k => castTop (efrm4 m a1) k) ?_
  refine own_go (A := s₁.setTop (mkF m 0 #[.val (.ref a1)] [])) (B := s₁.setTop (mkF m 1 #[.val (.ref a1)] [(.ref a1)])) (fun t k => ?_) ?_
  · show Steps p.tables e below (s₁.setTop (mkF m 0 #[.val (.ref a1)] [])) _
    refine XS.aloadN X0.here hx rfl (hb hby d4_0) rfl rfl ?_
    exact k
  obtain ⟨T35, X35, e35, st35⟩ := getF X0 hx hZ hown (host := "") (Or.inl (hw _ (List.mem_of_getElem? (i := 33) rfl))) Via.refl e0 P0 (g := (mkF m 1 #[.val (.ref a1)] [(.ref a1)])) rfl rfl (hb hby d4_1)
  refine own_go st35 ?_
  obtain ⟨fs, hr, hrun, hended, hW, hsame⟩ := X35.leave (v := some (.ref w1)) (fun h => by rw [Bd.returns] at h; cases h)
  refine ⟨_, _, ?_, hrun, hended, _, _, rfl, ?_, ⟨_, rfl⟩, hW, hsame.mono (by decide) (by decide)⟩
  · show Steps p.tables e below (T35.setTop (mkF m 4 #[.val (.ref a1)] [(.ref w1)])) _
    exact retOut X35 hx Bd.returns rfl (Or.inr (Or.inr (Or.inr (Or.inr ⟨rfl, rfl, rfl⟩)))) (hb hby d4_4) hr
  · show Qrm4 Z a1 w1 h0 n0 _ T35.heap _
    rw [e35]
    exact ⟨rfl, N0, rfl⟩
def Qrm6 (Z : State) (a1 : Addr) (cs : Int32) (h0 : Heap) (n0 : Nat) (v : Option Value) (h : Heap) (L : List Loc) : Prop := v = some (.int (0 : Int32)) ∧ Fr n0 L ∧ h = h0
theorem efrm6 (m : MethodId) (x0 : Addr) : entryFrame m #[(.ref x0)] 1 = mkF m 0 #[.val (.ref x0)] [] := by first | (simp [entryFrame, mkF, argsToLocals, Value.category]; done) | rfl
set_option maxRecDepth 65536 in
set_option maxHeartbeats 40000000 in
theorem rm6 (l : Launch) (Z : State) (a0 : Array Value) (hw : ∀ d ∈ tables_1, d.before a0 Z = true) (ws : List Jvm.Cond) (a1 : Addr) (cs : Int32) (h0 : Heap) (n0 : Nat) (Z0 : n0 ≤ h0.size) (P0 : Sta Z h0 "java/lang/String" "COMPACT_STRINGS" "Z" (.int cs)) (P1 : Fld Z h0 a1 "java/lang/String" "coder" "B" (.int (0 : Int32))) (hcs : ¬ (cs = (0 : Int32))) :
    MetFree l (⟨"java/lang/String", "coder", "()B"⟩ : MethodName) (head1 (Jvm.Cond.code (⟨"java/lang/String", "coder", "()B"⟩ : MethodName) jdk_42_method_152_code 1 (some .byte) :: ws) ({ frames := 0, cells := 0, slots := 0, locals := 0 } : Room)) (fun a U => a = #[(.ref a1)] ∧ Z.Warmed39 U.vm ∧ U.heap = h0) (fun _ _ _ _ _ => True) (fun _ U o U' => ∃ v L, o = .returned v ∧ Qrm6 Z a1 cs h0 n0 v U'.heap L ∧ FrameEnd U o U' L ({ frames := 0, cells := 0, slots := 0, locals := 0 } : Room).cells ({ frames := 0, cells := 0, slots := 0, locals := 0 } : Room).slots) := by
  refine MetFree.of_bodySF (plainFor_of_name pn_3) hisR ?_
  intro p e s m args below meth c s₁ Bd hml0 hP hK
  obtain ⟨rfl, hZ, hh⟩ := hP
  have hx := Bd.exec
  have hby := Bd.bytes
  have hml : c.maxLocals = 1 := hml0
  have hown : s.vm.findClass "java/lang/String" = some m.cls := findClass_of_methodNamed Bd.named
  have hnm := (name_of_methodNamed Bd.named Bd.method).1
  have X0 : Stand p l e ({ frames := 0, cells := 0, slots := 0, locals := 0 } : Room) s m #[(.ref a1)] below meth c s₁ [] 0 0 := Stand.of_body Bd
  have e0 : s₁.heap = h0 := by rw [← hh, Bd.state]; rfl
  have N0 := Fr.nil n0
  have K0 : Keep h0 h0 [] := Keep.refl h0 _
  refine own_go (B := s₁.setTop (mkF m 0 #[.val (.ref a1)] [])) (fun t k => castTop (efrm6 m a1) k) ?_
  obtain ⟨T36, X36, e36, st36⟩ := getS2 X0 hx hZ hown (host := "") (Or.inl (hw _ (List.mem_of_getElem? (i := 48) rfl))) Via.refl e0 P0 (g := (mkF m 0 #[.val (.ref a1)] [])) rfl (hb hby d6_0)
  refine own_go st36 ?_
  have hc3_37 : ¬ (cs = (0 : Int32)) := hcs
  refine own_go (A := T36.setTop (mkF m 3 #[.val (.ref a1)] [(.int cs)])) (B := T36.setTop (mkF m 7 #[.val (.ref a1)] [(.ref a1)])) (fun t k => ?_) ?_
  · show Steps p.tables e below (T36.setTop (mkF m 3 #[.val (.ref a1)] [(.int cs)])) _
    refine XS.ifNo X36.here hx rfl (hb hby d6_3) rfl ((if0 _ _).trans (feq hc3_37).1) ?_
    show Steps p.tables e below (T36.setTop (mkF m 6 #[.val (.ref a1)] [])) _
    refine XS.aloadN X36.here hx rfl (hb hby d6_6) rfl rfl ?_
    exact k
  obtain ⟨T38, X38, e38, st38⟩ := getF X36 hx hZ hown (host := "") (Or.inl (hw _ (List.mem_of_getElem? (i := 49) rfl))) Via.refl e36 P1 (g := (mkF m 7 #[.val (.ref a1)] [(.ref a1)])) rfl rfl (hb hby d6_7)
  refine own_go st38 ?_
  refine own_go (A := T38.setTop (mkF m 10 #[.val (.ref a1)] [(.int (0 : Int32))])) (B := T38.setTop (mkF m 14 #[.val (.ref a1)] [(.int (0 : Int32))])) (fun t k => ?_) ?_
  · show Steps p.tables e below (T38.setTop (mkF m 10 #[.val (.ref a1)] [(.int (0 : Int32))])) _
    refine XS.goto X38.here hx rfl (pc0 := 10) (pc' := 14) rfl (hb hby d6_10) (by decide) (by decide) ?_
    exact k
  obtain ⟨fs, hr, hrun, hended, hW, hsame⟩ := X38.leave (v := some (.int (0 : Int32))) (fun h => by rw [Bd.returns] at h; cases h)
  refine ⟨_, _, ?_, hrun, hended, _, _, rfl, ?_, ⟨_, rfl⟩, hW, hsame.mono (by decide) (by decide)⟩
  · show Steps p.tables e below (T38.setTop (mkF m 14 #[.val (.ref a1)] [(.int (0 : Int32))])) _
    exact retN X38 hx (t := .byte) Bd.returns (by simp) (hb hby d6_14) hr
  · show Qrm6 Z a1 cs h0 n0 _ T38.heap _
    rw [e38]
    exact ⟨rfl, N0, rfl⟩
def Qrm8 (Z : State) (a1 : Addr) (cs : Int32) (h0 : Heap) (n0 : Nat) (v : Option Value) (h : Heap) (L : List Loc) : Prop := v = some (.int (1 : Int32)) ∧ Fr n0 L ∧ h = h0
theorem efrm8 (m : MethodId) (x0 : Addr) : entryFrame m #[(.ref x0)] 1 = mkF m 0 #[.val (.ref x0)] [] := by first | (simp [entryFrame, mkF, argsToLocals, Value.category]; done) | rfl
set_option maxRecDepth 65536 in
set_option maxHeartbeats 40000000 in
theorem rm8 (l : Launch) (Z : State) (a0 : Array Value) (hw : ∀ d ∈ tables_1, d.before a0 Z = true) (ws : List Jvm.Cond) (a1 : Addr) (cs : Int32) (h0 : Heap) (n0 : Nat) (Z0 : n0 ≤ h0.size) (P0 : Sta Z h0 "java/lang/String" "COMPACT_STRINGS" "Z" (.int cs)) (P1 : Fld Z h0 a1 "java/lang/String" "coder" "B" (.int (0 : Int32))) (hcs : ¬ (cs = (0 : Int32))) :
    MetFree l (⟨"java/lang/String", "isLatin1", "()Z"⟩ : MethodName) (head1 (Jvm.Cond.code (⟨"java/lang/String", "isLatin1", "()Z"⟩ : MethodName) jdk_42_method_154_code 1 (some .boolean) :: ws) ({ frames := 0, cells := 0, slots := 0, locals := 0 } : Room)) (fun a U => a = #[(.ref a1)] ∧ Z.Warmed39 U.vm ∧ U.heap = h0) (fun _ _ _ _ _ => True) (fun _ U o U' => ∃ v L, o = .returned v ∧ Qrm8 Z a1 cs h0 n0 v U'.heap L ∧ FrameEnd U o U' L ({ frames := 0, cells := 0, slots := 0, locals := 0 } : Room).cells ({ frames := 0, cells := 0, slots := 0, locals := 0 } : Room).slots) := by
  refine MetFree.of_bodySF (plainFor_of_name pn_3) hisR ?_
  intro p e s m args below meth c s₁ Bd hml0 hP hK
  obtain ⟨rfl, hZ, hh⟩ := hP
  have hx := Bd.exec
  have hby := Bd.bytes
  have hml : c.maxLocals = 1 := hml0
  have hown : s.vm.findClass "java/lang/String" = some m.cls := findClass_of_methodNamed Bd.named
  have hnm := (name_of_methodNamed Bd.named Bd.method).1
  have X0 : Stand p l e ({ frames := 0, cells := 0, slots := 0, locals := 0 } : Room) s m #[(.ref a1)] below meth c s₁ [] 0 0 := Stand.of_body Bd
  have e0 : s₁.heap = h0 := by rw [← hh, Bd.state]; rfl
  have N0 := Fr.nil n0
  have K0 : Keep h0 h0 [] := Keep.refl h0 _
  refine own_go (B := s₁.setTop (mkF m 0 #[.val (.ref a1)] [])) (fun t k => castTop (efrm8 m a1) k) ?_
  obtain ⟨T39, X39, e39, st39⟩ := getS2 X0 hx hZ hown (host := "") (Or.inl (hw _ (List.mem_of_getElem? (i := 48) rfl))) Via.refl e0 P0 (g := (mkF m 0 #[.val (.ref a1)] [])) rfl (hb hby d8_0)
  refine own_go st39 ?_
  have hc3_40 : ¬ (cs = (0 : Int32)) := hcs
  refine own_go (A := T39.setTop (mkF m 3 #[.val (.ref a1)] [(.int cs)])) (B := T39.setTop (mkF m 7 #[.val (.ref a1)] [(.ref a1)])) (fun t k => ?_) ?_
  · show Steps p.tables e below (T39.setTop (mkF m 3 #[.val (.ref a1)] [(.int cs)])) _
    refine XS.ifNo X39.here hx rfl (hb hby d8_3) rfl ((if0 _ _).trans (feq hc3_40).1) ?_
    show Steps p.tables e below (T39.setTop (mkF m 6 #[.val (.ref a1)] [])) _
    refine XS.aloadN X39.here hx rfl (hb hby d8_6) rfl rfl ?_
    exact k
  obtain ⟨T41, X41, e41, st41⟩ := getF X39 hx hZ hown (host := "") (Or.inl (hw _ (List.mem_of_getElem? (i := 49) rfl))) Via.refl e39 P1 (g := (mkF m 7 #[.val (.ref a1)] [(.ref a1)])) rfl rfl (hb hby d8_7)
  refine own_go st41 ?_
  refine own_go (A := T41.setTop (mkF m 10 #[.val (.ref a1)] [(.int (0 : Int32))])) (B := T41.setTop (mkF m 18 #[.val (.ref a1)] [(.int (1 : Int32))])) (fun t k => ?_) ?_
  · show Steps p.tables e below (T41.setTop (mkF m 10 #[.val (.ref a1)] [(.int (0 : Int32))])) _
    refine XS.ifNo X41.here hx rfl (hb hby d8_10) rfl ((if0 _ _).trans (teq (rfl : (0 : Int32) = (0 : Int32))).2) ?_
    show Steps p.tables e below (T41.setTop (mkF m 13 #[.val (.ref a1)] [])) _
    refine XS.iconst X41.here hx rfl (hb hby d8_13) ?_
    show Steps p.tables e below (T41.setTop (mkF m 14 #[.val (.ref a1)] [(.int (1 : Int32))])) _
    refine XS.goto X41.here hx rfl (pc0 := 14) (pc' := 18) rfl (hb hby d8_14) (by decide) (by decide) ?_
    exact k
  obtain ⟨fs, hr, hrun, hended, hW, hsame⟩ := X41.leave (v := some (.int (1 : Int32))) (fun h => by rw [Bd.returns] at h; cases h)
  refine ⟨_, _, ?_, hrun, hended, _, _, rfl, ?_, ⟨_, rfl⟩, hW, hsame.mono (by decide) (by decide)⟩
  · show Steps p.tables e below (T41.setTop (mkF m 18 #[.val (.ref a1)] [(.int (1 : Int32))])) _
    exact retN X41 hx (t := .boolean) Bd.returns (by simp) (hb hby d8_18) hr
  · show Qrm8 Z a1 cs h0 n0 _ T41.heap _
    rw [e41]
    exact ⟨rfl, N0, rfl⟩
def Qrm13_0 (Z : State) (a1 : Addr) (h0 : Heap) (n0 : Nat) (v : Option Value) (h : Heap) (L : List Loc) : Prop := v = some (.int (0 : Int32)) ∧ Fr n0 L ∧ h = h0
theorem efrm13_0 (m : MethodId) (x0 : Addr) : entryFrame m #[(.ref x0)] 1 = mkF m 0 #[.val (.ref x0)] [] := by first | (simp [entryFrame, mkF, argsToLocals, Value.category]; done) | rfl
set_option maxRecDepth 65536 in
set_option maxHeartbeats 40000000 in
theorem rm13_0 (l : Launch) (Z : State) (a0 : Array Value) (hw : ∀ d ∈ tables_1, d.before a0 Z = true) (ws : List Jvm.Cond) (a1 : Addr) (h0 : Heap) (n0 : Nat) (Z0 : n0 ≤ h0.size) (P0 : Fld Z h0 a1 "java/lang/Enum" "ordinal" "I" (.int (0 : Int32))) :
    MetFree l (⟨"java/lang/Enum", "ordinal", "()I"⟩ : MethodName) (head1 (Jvm.Cond.code (⟨"java/lang/Enum", "ordinal", "()I"⟩ : MethodName) jdk_37_method_2_code 1 (some .int) :: ws) ({ frames := 0, cells := 0, slots := 0, locals := 0 } : Room)) (fun a U => a = #[(.ref a1)] ∧ Z.Warmed39 U.vm ∧ U.heap = h0) (fun _ _ _ _ _ => True) (fun _ U o U' => ∃ v L, o = .returned v ∧ Qrm13_0 Z a1 h0 n0 v U'.heap L ∧ FrameEnd U o U' L ({ frames := 0, cells := 0, slots := 0, locals := 0 } : Room).cells ({ frames := 0, cells := 0, slots := 0, locals := 0 } : Room).slots) := by
  refine MetFree.of_bodySF (plainFor_of_name pn_4) hisR ?_
  intro p e s m args below meth c s₁ Bd hml0 hP hK
  obtain ⟨rfl, hZ, hh⟩ := hP
  have hx := Bd.exec
  have hby := Bd.bytes
  have hml : c.maxLocals = 1 := hml0
  have hown : s.vm.findClass "java/lang/Enum" = some m.cls := findClass_of_methodNamed Bd.named
  have hnm := (name_of_methodNamed Bd.named Bd.method).1
  have X0 : Stand p l e ({ frames := 0, cells := 0, slots := 0, locals := 0 } : Room) s m #[(.ref a1)] below meth c s₁ [] 0 0 := Stand.of_body Bd
  have e0 : s₁.heap = h0 := by rw [← hh, Bd.state]; rfl
  have N0 := Fr.nil n0
  have K0 : Keep h0 h0 [] := Keep.refl h0 _
  refine own_go (B := s₁.setTop (mkF m 0 #[.val (.ref a1)] [])) (fun t k => castTop (efrm13_0 m a1) k) ?_
  refine own_go (A := s₁.setTop (mkF m 0 #[.val (.ref a1)] [])) (B := s₁.setTop (mkF m 1 #[.val (.ref a1)] [(.ref a1)])) (fun t k => ?_) ?_
  · show Steps p.tables e below (s₁.setTop (mkF m 0 #[.val (.ref a1)] [])) _
    refine XS.aloadN X0.here hx rfl (hb hby d13_0) rfl rfl ?_
    exact k
  obtain ⟨T43, X43, e43, st43⟩ := getF X0 hx hZ hown (host := "") (Or.inl (hw _ (List.mem_of_getElem? (i := 85) rfl))) Via.refl e0 P0 (g := (mkF m 1 #[.val (.ref a1)] [(.ref a1)])) rfl rfl (hb hby d13_1)
  refine own_go st43 ?_
  obtain ⟨fs, hr, hrun, hended, hW, hsame⟩ := X43.leave (v := some (.int (0 : Int32))) (fun h => by rw [Bd.returns] at h; cases h)
  refine ⟨_, _, ?_, hrun, hended, _, _, rfl, ?_, ⟨_, rfl⟩, hW, hsame.mono (by decide) (by decide)⟩
  · show Steps p.tables e below (T43.setTop (mkF m 4 #[.val (.ref a1)] [(.int (0 : Int32))])) _
    exact retOut X43 hx Bd.returns rfl (Or.inl ⟨rfl, Or.inl rfl, _, rfl⟩) (hb hby d13_4) hr
  · show Qrm13_0 Z a1 h0 n0 _ T43.heap _
    rw [e43]
    exact ⟨rfl, N0, rfl⟩
def Qrm12_0 (Z : State) (a1 : Addr) (s_Move_CONVERSE_FIRST_CHILD : Addr) (h0 : Heap) (n0 : Nat) (v : Option Value) (h : Heap) (L : List Loc) : Prop := v = some (.ref s_Move_CONVERSE_FIRST_CHILD) ∧ Fr n0 L ∧ h = h0
theorem efrm12_0 (m : MethodId) (x0 : Addr) : entryFrame m #[(.ref x0)] 1 = mkF m 0 #[.val (.ref x0)] [] := by first | (simp [entryFrame, mkF, argsToLocals, Value.category]; done) | rfl
set_option maxRecDepth 65536 in
set_option maxHeartbeats 40000000 in
theorem rm12_0 (l : Launch) (Z : State) (a0 : Array Value) (hw : ∀ d ∈ tables_1, d.before a0 Z = true) (ws : List Jvm.Cond) (a1 : Addr) (s_Move_CONVERSE_FIRST_CHILD : Addr) (h0 : Heap) (n0 : Nat) (Z0 : n0 ≤ h0.size) (P0 : Exa Z h0 a1 "com/example/decider/decider/library/xpath/Move") (P1 : Sta Z h0 "com/example/decider/decider/library/xpath/Move" "CONVERSE_FIRST_CHILD" "Lcom/example/decider/decider/library/xpath/Move;" (.ref s_Move_CONVERSE_FIRST_CHILD)) (P2 : Fld Z h0 a1 "java/lang/Enum" "ordinal" "I" (.int (0 : Int32))) :
    MetFree l (⟨"com/example/decider/decider/library/xpath/Move", "inverse", "()Lcom/example/decider/decider/library/xpath/Move;"⟩ : MethodName) (head1 (Jvm.Cond.code (⟨"com/example/decider/decider/library/xpath/Move", "inverse", "()Lcom/example/decider/decider/library/xpath/Move;"⟩ : MethodName) prog_85_method_5_code 1 (some (.object "com/example/decider/decider/library/xpath/Move")) :: ws) ({ frames := 1, cells := 0, slots := 0, locals := 12 } : Room)) (fun a U => a = #[(.ref a1)] ∧ Z.Warmed39 U.vm ∧ U.heap = h0) (fun _ _ _ _ _ => True) (fun _ U o U' => ∃ v L, o = .returned v ∧ Qrm12_0 Z a1 s_Move_CONVERSE_FIRST_CHILD h0 n0 v U'.heap L ∧ FrameEnd U o U' L ({ frames := 1, cells := 0, slots := 0, locals := 12 } : Room).cells ({ frames := 1, cells := 0, slots := 0, locals := 12 } : Room).slots) := by
  refine MetFree.of_bodySF (plainFor_of_name pn_1) hisR ?_
  intro p e s m args below meth c s₁ Bd hml0 hP hK
  obtain ⟨rfl, hZ, hh⟩ := hP
  have hx := Bd.exec
  have hby := Bd.bytes
  have hml : c.maxLocals = 1 := hml0
  have hown : s.vm.findClass "com/example/decider/decider/library/xpath/Move" = some m.cls := findClass_of_methodNamed Bd.named
  have hnm := (name_of_methodNamed Bd.named Bd.method).1
  have X0 : Stand p l e ({ frames := 1, cells := 0, slots := 0, locals := 12 } : Room) s m #[(.ref a1)] below meth c s₁ [] 0 0 := Stand.of_body Bd
  have e0 : s₁.heap = h0 := by rw [← hh, Bd.state]; rfl
  have N0 := Fr.nil n0
  have K0 : Keep h0 h0 [] := Keep.refl h0 _
  refine own_go (B := s₁.setTop (mkF m 0 #[.val (.ref a1)] [])) (fun t k => castTop (efrm12_0 m a1) k) ?_
  refine own_go (A := s₁.setTop (mkF m 0 #[.val (.ref a1)] [])) (B := s₁.setTop (mkF m 1 #[.val (.ref a1)] [(.ref a1)])) (fun t k => ?_) ?_
  · show Steps p.tables e below (s₁.setTop (mkF m 0 #[.val (.ref a1)] [])) _
    refine XS.aloadN X0.here hx rfl (hb hby d12_0) rfl rfl ?_
    exact k
  obtain ⟨cq44, kq44, q44a, q44b, q44c⟩ := isOf hZ e0 P0
  obtain ⟨_, _, ⟨T44, L44, k44, n44⟩, -, X44, ⟨Lc44, hQ44, l44, y44, z44⟩, st44⟩ := X0.virtualBackUp hx (x := (⟨"com/example/decider/decider/library/xpath/Move", "ordinal", "()I"⟩ : MethodName)) (y := (⟨"java/lang/Enum", "ordinal", "()I"⟩ : MethodName)) hown (mvT hZ (hw _ (List.mem_of_getElem? (i := 78) rfl))) (mvT hZ (hw _ (List.mem_of_getElem? (i := 79) rfl))) (mvT hZ (hw _ (List.mem_of_getElem? (i := 80) rfl))) (by decide) (mvT hZ (hw _ (List.mem_of_getElem? (i := 82) rfl))) (mvT hZ (hw _ (List.mem_of_getElem? (i := 81) rfl))) (backOf (W := 0) (rm13_0 l Z a0 hw [] a1 h0 n0 Z0 P2) hZ (hw _ (List.mem_of_getElem? (i := 84) rfl)) (hw _ (List.mem_of_getElem? (i := 83) rfl)) (by decide) (by decide)) q44a q44c (g := (mkF m 1 #[.val (.ref a1)] [(.ref a1)])) rfl (by rw [hml]; rfl) (Steps.refl _) (argsL := []) (rest := []) (lenOf pd_0 rfl) rfl (by show 2 * 0 + _ ≤ _; exact Nat.le_of_eq rfl) (hb hby d12_1) (fun _ _ => ⟨rfl, e0, (by decide : 0 + 0 ≤ _), (by decide : 0 + 0 ≤ _)⟩)
  dsimp only [Pt.U, Pt.locs, Pt.cells, Pt.slots] at X44 l44 y44 z44 st44 hQ44
  subst l44 y44 z44
  obtain ⟨rfl, Nq44, e44⟩ := hQ44
  have N44 := Fr.app N0 Nq44
  refine own_go (A := _) (B := T44.setTop (mkF m 4 #[.val (.ref a1)] [(.int (0 : Int32))])) (fun t k => st44.trans k) ?_
  refine own_go (A := T44.setTop (mkF m 4 #[.val (.ref a1)] [(.int (0 : Int32))])) (B := T44.setTop (mkF m 54 #[.val (.ref a1)] [])) (fun t k => ?_) ?_
  · show Steps p.tables e below (T44.setTop (mkF m 4 #[.val (.ref a1)] [(.int (0 : Int32))])) _
    refine XS.tswIn X44.here hx rfl (pc0 := 4) (pc' := 54) rfl (hb hby d12_4) rfl (by decide) (o := 50) (by decide) (by decide) (by decide) ?_
    exact k
  obtain ⟨T45, X45, e45, st45⟩ := getS2 X44 hx hZ hown (host := "") (Or.inl (hw _ (List.mem_of_getElem? (i := 13) rfl))) Via.refl e44 P1 (g := (mkF m 54 #[.val (.ref a1)] [])) rfl (hb hby d12_54)
  refine own_go st45 ?_
  refine own_go (A := T45.setTop (mkF m 57 #[.val (.ref a1)] [(.ref s_Move_CONVERSE_FIRST_CHILD)])) (B := T45.setTop (mkF m 87 #[.val (.ref a1)] [(.ref s_Move_CONVERSE_FIRST_CHILD)])) (fun t k => ?_) ?_
  · show Steps p.tables e below (T45.setTop (mkF m 57 #[.val (.ref a1)] [(.ref s_Move_CONVERSE_FIRST_CHILD)])) _
    refine XS.goto X45.here hx rfl (pc0 := 57) (pc' := 87) rfl (hb hby d12_57) (by decide) (by decide) ?_
    exact k
  obtain ⟨fs, hr, hrun, hended, hW, hsame⟩ := X45.leave (v := some (.ref s_Move_CONVERSE_FIRST_CHILD)) (fun h => by rw [Bd.returns] at h; cases h)
  refine ⟨_, _, ?_, hrun, hended, _, _, rfl, ?_, ⟨_, rfl⟩, hW, hsame.mono (by decide) (by decide)⟩
  · show Steps p.tables e below (T45.setTop (mkF m 87 #[.val (.ref a1)] [(.ref s_Move_CONVERSE_FIRST_CHILD)])) _
    exact retOut X45 hx Bd.returns rfl (Or.inr (Or.inr (Or.inr (Or.inr ⟨rfl, rfl, rfl⟩)))) (hb hby d12_87) hr
  · show Qrm12_0 Z a1 s_Move_CONVERSE_FIRST_CHILD h0 n0 _ T45.heap _
    rw [e45]
    exact ⟨rfl, N44, rfl⟩
def Qrm13_1 (Z : State) (a1 : Addr) (h0 : Heap) (n0 : Nat) (v : Option Value) (h : Heap) (L : List Loc) : Prop := v = some (.int (1 : Int32)) ∧ Fr n0 L ∧ h = h0
theorem efrm13_1 (m : MethodId) (x0 : Addr) : entryFrame m #[(.ref x0)] 1 = mkF m 0 #[.val (.ref x0)] [] := by first | (simp [entryFrame, mkF, argsToLocals, Value.category]; done) | rfl
set_option maxRecDepth 65536 in
set_option maxHeartbeats 40000000 in
theorem rm13_1 (l : Launch) (Z : State) (a0 : Array Value) (hw : ∀ d ∈ tables_1, d.before a0 Z = true) (ws : List Jvm.Cond) (a1 : Addr) (h0 : Heap) (n0 : Nat) (Z0 : n0 ≤ h0.size) (P0 : Fld Z h0 a1 "java/lang/Enum" "ordinal" "I" (.int (1 : Int32))) :
    MetFree l (⟨"java/lang/Enum", "ordinal", "()I"⟩ : MethodName) (head1 (Jvm.Cond.code (⟨"java/lang/Enum", "ordinal", "()I"⟩ : MethodName) jdk_37_method_2_code 1 (some .int) :: ws) ({ frames := 0, cells := 0, slots := 0, locals := 0 } : Room)) (fun a U => a = #[(.ref a1)] ∧ Z.Warmed39 U.vm ∧ U.heap = h0) (fun _ _ _ _ _ => True) (fun _ U o U' => ∃ v L, o = .returned v ∧ Qrm13_1 Z a1 h0 n0 v U'.heap L ∧ FrameEnd U o U' L ({ frames := 0, cells := 0, slots := 0, locals := 0 } : Room).cells ({ frames := 0, cells := 0, slots := 0, locals := 0 } : Room).slots) := by
  refine MetFree.of_bodySF (plainFor_of_name pn_4) hisR ?_
  intro p e s m args below meth c s₁ Bd hml0 hP hK
  obtain ⟨rfl, hZ, hh⟩ := hP
  have hx := Bd.exec
  have hby := Bd.bytes
  have hml : c.maxLocals = 1 := hml0
  have hown : s.vm.findClass "java/lang/Enum" = some m.cls := findClass_of_methodNamed Bd.named
  have hnm := (name_of_methodNamed Bd.named Bd.method).1
  have X0 : Stand p l e ({ frames := 0, cells := 0, slots := 0, locals := 0 } : Room) s m #[(.ref a1)] below meth c s₁ [] 0 0 := Stand.of_body Bd
  have e0 : s₁.heap = h0 := by rw [← hh, Bd.state]; rfl
  have N0 := Fr.nil n0
  have K0 : Keep h0 h0 [] := Keep.refl h0 _
  refine own_go (B := s₁.setTop (mkF m 0 #[.val (.ref a1)] [])) (fun t k => castTop (efrm13_1 m a1) k) ?_
  refine own_go (A := s₁.setTop (mkF m 0 #[.val (.ref a1)] [])) (B := s₁.setTop (mkF m 1 #[.val (.ref a1)] [(.ref a1)])) (fun t k => ?_) ?_
  · show Steps p.tables e below (s₁.setTop (mkF m 0 #[.val (.ref a1)] [])) _
    refine XS.aloadN X0.here hx rfl (hb hby d13_0) rfl rfl ?_
    exact k
  obtain ⟨T46, X46, e46, st46⟩ := getF X0 hx hZ hown (host := "") (Or.inl (hw _ (List.mem_of_getElem? (i := 85) rfl))) Via.refl e0 P0 (g := (mkF m 1 #[.val (.ref a1)] [(.ref a1)])) rfl rfl (hb hby d13_1)
  refine own_go st46 ?_
  obtain ⟨fs, hr, hrun, hended, hW, hsame⟩ := X46.leave (v := some (.int (1 : Int32))) (fun h => by rw [Bd.returns] at h; cases h)
  refine ⟨_, _, ?_, hrun, hended, _, _, rfl, ?_, ⟨_, rfl⟩, hW, hsame.mono (by decide) (by decide)⟩
  · show Steps p.tables e below (T46.setTop (mkF m 4 #[.val (.ref a1)] [(.int (1 : Int32))])) _
    exact retOut X46 hx Bd.returns rfl (Or.inl ⟨rfl, Or.inl rfl, _, rfl⟩) (hb hby d13_4) hr
  · show Qrm13_1 Z a1 h0 n0 _ T46.heap _
    rw [e46]
    exact ⟨rfl, N0, rfl⟩
def Qrm12_1 (Z : State) (a1 : Addr) (s_Move_CONVERSE_NEXT_SIBLING : Addr) (h0 : Heap) (n0 : Nat) (v : Option Value) (h : Heap) (L : List Loc) : Prop := v = some (.ref s_Move_CONVERSE_NEXT_SIBLING) ∧ Fr n0 L ∧ h = h0
theorem efrm12_1 (m : MethodId) (x0 : Addr) : entryFrame m #[(.ref x0)] 1 = mkF m 0 #[.val (.ref x0)] [] := by first | (simp [entryFrame, mkF, argsToLocals, Value.category]; done) | rfl
set_option maxRecDepth 65536 in
set_option maxHeartbeats 40000000 in
theorem rm12_1 (l : Launch) (Z : State) (a0 : Array Value) (hw : ∀ d ∈ tables_1, d.before a0 Z = true) (ws : List Jvm.Cond) (a1 : Addr) (s_Move_CONVERSE_NEXT_SIBLING : Addr) (h0 : Heap) (n0 : Nat) (Z0 : n0 ≤ h0.size) (P0 : Exa Z h0 a1 "com/example/decider/decider/library/xpath/Move") (P1 : Sta Z h0 "com/example/decider/decider/library/xpath/Move" "CONVERSE_NEXT_SIBLING" "Lcom/example/decider/decider/library/xpath/Move;" (.ref s_Move_CONVERSE_NEXT_SIBLING)) (P2 : Fld Z h0 a1 "java/lang/Enum" "ordinal" "I" (.int (1 : Int32))) :
    MetFree l (⟨"com/example/decider/decider/library/xpath/Move", "inverse", "()Lcom/example/decider/decider/library/xpath/Move;"⟩ : MethodName) (head1 (Jvm.Cond.code (⟨"com/example/decider/decider/library/xpath/Move", "inverse", "()Lcom/example/decider/decider/library/xpath/Move;"⟩ : MethodName) prog_85_method_5_code 1 (some (.object "com/example/decider/decider/library/xpath/Move")) :: ws) ({ frames := 1, cells := 0, slots := 0, locals := 12 } : Room)) (fun a U => a = #[(.ref a1)] ∧ Z.Warmed39 U.vm ∧ U.heap = h0) (fun _ _ _ _ _ => True) (fun _ U o U' => ∃ v L, o = .returned v ∧ Qrm12_1 Z a1 s_Move_CONVERSE_NEXT_SIBLING h0 n0 v U'.heap L ∧ FrameEnd U o U' L ({ frames := 1, cells := 0, slots := 0, locals := 12 } : Room).cells ({ frames := 1, cells := 0, slots := 0, locals := 12 } : Room).slots) := by
  refine MetFree.of_bodySF (plainFor_of_name pn_1) hisR ?_
  intro p e s m args below meth c s₁ Bd hml0 hP hK
  obtain ⟨rfl, hZ, hh⟩ := hP
  have hx := Bd.exec
  have hby := Bd.bytes
  have hml : c.maxLocals = 1 := hml0
  have hown : s.vm.findClass "com/example/decider/decider/library/xpath/Move" = some m.cls := findClass_of_methodNamed Bd.named
  have hnm := (name_of_methodNamed Bd.named Bd.method).1
  have X0 : Stand p l e ({ frames := 1, cells := 0, slots := 0, locals := 12 } : Room) s m #[(.ref a1)] below meth c s₁ [] 0 0 := Stand.of_body Bd
  have e0 : s₁.heap = h0 := by rw [← hh, Bd.state]; rfl
  have N0 := Fr.nil n0
  have K0 : Keep h0 h0 [] := Keep.refl h0 _
  refine own_go (B := s₁.setTop (mkF m 0 #[.val (.ref a1)] [])) (fun t k => castTop (efrm12_1 m a1) k) ?_
  refine own_go (A := s₁.setTop (mkF m 0 #[.val (.ref a1)] [])) (B := s₁.setTop (mkF m 1 #[.val (.ref a1)] [(.ref a1)])) (fun t k => ?_) ?_
  · show Steps p.tables e below (s₁.setTop (mkF m 0 #[.val (.ref a1)] [])) _
    refine XS.aloadN X0.here hx rfl (hb hby d12_0) rfl rfl ?_
    exact k
  obtain ⟨cq47, kq47, q47a, q47b, q47c⟩ := isOf hZ e0 P0
  obtain ⟨_, _, ⟨T47, L47, k47, n47⟩, -, X47, ⟨Lc47, hQ47, l47, y47, z47⟩, st47⟩ := X0.virtualBackUp hx (x := (⟨"com/example/decider/decider/library/xpath/Move", "ordinal", "()I"⟩ : MethodName)) (y := (⟨"java/lang/Enum", "ordinal", "()I"⟩ : MethodName)) hown (mvT hZ (hw _ (List.mem_of_getElem? (i := 78) rfl))) (mvT hZ (hw _ (List.mem_of_getElem? (i := 79) rfl))) (mvT hZ (hw _ (List.mem_of_getElem? (i := 80) rfl))) (by decide) (mvT hZ (hw _ (List.mem_of_getElem? (i := 82) rfl))) (mvT hZ (hw _ (List.mem_of_getElem? (i := 81) rfl))) (backOf (W := 0) (rm13_1 l Z a0 hw [] a1 h0 n0 Z0 P2) hZ (hw _ (List.mem_of_getElem? (i := 84) rfl)) (hw _ (List.mem_of_getElem? (i := 83) rfl)) (by decide) (by decide)) q47a q47c (g := (mkF m 1 #[.val (.ref a1)] [(.ref a1)])) rfl (by rw [hml]; rfl) (Steps.refl _) (argsL := []) (rest := []) (lenOf pd_0 rfl) rfl (by show 2 * 0 + _ ≤ _; exact Nat.le_of_eq rfl) (hb hby d12_1) (fun _ _ => ⟨rfl, e0, (by decide : 0 + 0 ≤ _), (by decide : 0 + 0 ≤ _)⟩)
  dsimp only [Pt.U, Pt.locs, Pt.cells, Pt.slots] at X47 l47 y47 z47 st47 hQ47
  subst l47 y47 z47
  obtain ⟨rfl, Nq47, e47⟩ := hQ47
  have N47 := Fr.app N0 Nq47
  refine own_go (A := _) (B := T47.setTop (mkF m 4 #[.val (.ref a1)] [(.int (1 : Int32))])) (fun t k => st47.trans k) ?_
  refine own_go (A := T47.setTop (mkF m 4 #[.val (.ref a1)] [(.int (1 : Int32))])) (B := T47.setTop (mkF m 60 #[.val (.ref a1)] [])) (fun t k => ?_) ?_
  · show Steps p.tables e below (T47.setTop (mkF m 4 #[.val (.ref a1)] [(.int (1 : Int32))])) _
    refine XS.tswIn X47.here hx rfl (pc0 := 4) (pc' := 60) rfl (hb hby d12_4) rfl (by decide) (o := 56) (by decide) (by decide) (by decide) ?_
    exact k
  obtain ⟨T48, X48, e48, st48⟩ := getS2 X47 hx hZ hown (host := "") (Or.inl (hw _ (List.mem_of_getElem? (i := 15) rfl))) Via.refl e47 P1 (g := (mkF m 60 #[.val (.ref a1)] [])) rfl (hb hby d12_60)
  refine own_go st48 ?_
  refine own_go (A := T48.setTop (mkF m 63 #[.val (.ref a1)] [(.ref s_Move_CONVERSE_NEXT_SIBLING)])) (B := T48.setTop (mkF m 87 #[.val (.ref a1)] [(.ref s_Move_CONVERSE_NEXT_SIBLING)])) (fun t k => ?_) ?_
  · show Steps p.tables e below (T48.setTop (mkF m 63 #[.val (.ref a1)] [(.ref s_Move_CONVERSE_NEXT_SIBLING)])) _
    refine XS.goto X48.here hx rfl (pc0 := 63) (pc' := 87) rfl (hb hby d12_63) (by decide) (by decide) ?_
    exact k
  obtain ⟨fs, hr, hrun, hended, hW, hsame⟩ := X48.leave (v := some (.ref s_Move_CONVERSE_NEXT_SIBLING)) (fun h => by rw [Bd.returns] at h; cases h)
  refine ⟨_, _, ?_, hrun, hended, _, _, rfl, ?_, ⟨_, rfl⟩, hW, hsame.mono (by decide) (by decide)⟩
  · show Steps p.tables e below (T48.setTop (mkF m 87 #[.val (.ref a1)] [(.ref s_Move_CONVERSE_NEXT_SIBLING)])) _
    exact retOut X48 hx Bd.returns rfl (Or.inr (Or.inr (Or.inr (Or.inr ⟨rfl, rfl, rfl⟩)))) (hb hby d12_87) hr
  · show Qrm12_1 Z a1 s_Move_CONVERSE_NEXT_SIBLING h0 n0 _ T48.heap _
    rw [e48]
    exact ⟨rfl, N47, rfl⟩
def Qrm13_2 (Z : State) (a1 : Addr) (h0 : Heap) (n0 : Nat) (v : Option Value) (h : Heap) (L : List Loc) : Prop := v = some (.int (2 : Int32)) ∧ Fr n0 L ∧ h = h0
theorem efrm13_2 (m : MethodId) (x0 : Addr) : entryFrame m #[(.ref x0)] 1 = mkF m 0 #[.val (.ref x0)] [] := by first | (simp [entryFrame, mkF, argsToLocals, Value.category]; done) | rfl
set_option maxRecDepth 65536 in
set_option maxHeartbeats 40000000 in
theorem rm13_2 (l : Launch) (Z : State) (a0 : Array Value) (hw : ∀ d ∈ tables_1, d.before a0 Z = true) (ws : List Jvm.Cond) (a1 : Addr) (h0 : Heap) (n0 : Nat) (Z0 : n0 ≤ h0.size) (P0 : Fld Z h0 a1 "java/lang/Enum" "ordinal" "I" (.int (2 : Int32))) :
    MetFree l (⟨"java/lang/Enum", "ordinal", "()I"⟩ : MethodName) (head1 (Jvm.Cond.code (⟨"java/lang/Enum", "ordinal", "()I"⟩ : MethodName) jdk_37_method_2_code 1 (some .int) :: ws) ({ frames := 0, cells := 0, slots := 0, locals := 0 } : Room)) (fun a U => a = #[(.ref a1)] ∧ Z.Warmed39 U.vm ∧ U.heap = h0) (fun _ _ _ _ _ => True) (fun _ U o U' => ∃ v L, o = .returned v ∧ Qrm13_2 Z a1 h0 n0 v U'.heap L ∧ FrameEnd U o U' L ({ frames := 0, cells := 0, slots := 0, locals := 0 } : Room).cells ({ frames := 0, cells := 0, slots := 0, locals := 0 } : Room).slots) := by
  refine MetFree.of_bodySF (plainFor_of_name pn_4) hisR ?_
  intro p e s m args below meth c s₁ Bd hml0 hP hK
  obtain ⟨rfl, hZ, hh⟩ := hP
  have hx := Bd.exec
  have hby := Bd.bytes
  have hml : c.maxLocals = 1 := hml0
  have hown : s.vm.findClass "java/lang/Enum" = some m.cls := findClass_of_methodNamed Bd.named
  have hnm := (name_of_methodNamed Bd.named Bd.method).1
  have X0 : Stand p l e ({ frames := 0, cells := 0, slots := 0, locals := 0 } : Room) s m #[(.ref a1)] below meth c s₁ [] 0 0 := Stand.of_body Bd
  have e0 : s₁.heap = h0 := by rw [← hh, Bd.state]; rfl
  have N0 := Fr.nil n0
  have K0 : Keep h0 h0 [] := Keep.refl h0 _
  refine own_go (B := s₁.setTop (mkF m 0 #[.val (.ref a1)] [])) (fun t k => castTop (efrm13_2 m a1) k) ?_
  refine own_go (A := s₁.setTop (mkF m 0 #[.val (.ref a1)] [])) (B := s₁.setTop (mkF m 1 #[.val (.ref a1)] [(.ref a1)])) (fun t k => ?_) ?_
  · show Steps p.tables e below (s₁.setTop (mkF m 0 #[.val (.ref a1)] [])) _
    refine XS.aloadN X0.here hx rfl (hb hby d13_0) rfl rfl ?_
    exact k
  obtain ⟨T49, X49, e49, st49⟩ := getF X0 hx hZ hown (host := "") (Or.inl (hw _ (List.mem_of_getElem? (i := 85) rfl))) Via.refl e0 P0 (g := (mkF m 1 #[.val (.ref a1)] [(.ref a1)])) rfl rfl (hb hby d13_1)
  refine own_go st49 ?_
  obtain ⟨fs, hr, hrun, hended, hW, hsame⟩ := X49.leave (v := some (.int (2 : Int32))) (fun h => by rw [Bd.returns] at h; cases h)
  refine ⟨_, _, ?_, hrun, hended, _, _, rfl, ?_, ⟨_, rfl⟩, hW, hsame.mono (by decide) (by decide)⟩
  · show Steps p.tables e below (T49.setTop (mkF m 4 #[.val (.ref a1)] [(.int (2 : Int32))])) _
    exact retOut X49 hx Bd.returns rfl (Or.inl ⟨rfl, Or.inl rfl, _, rfl⟩) (hb hby d13_4) hr
  · show Qrm13_2 Z a1 h0 n0 _ T49.heap _
    rw [e49]
    exact ⟨rfl, N0, rfl⟩
def Qrm12_2 (Z : State) (a1 : Addr) (s_Move_FIRST_CHILD : Addr) (h0 : Heap) (n0 : Nat) (v : Option Value) (h : Heap) (L : List Loc) : Prop := v = some (.ref s_Move_FIRST_CHILD) ∧ Fr n0 L ∧ h = h0
theorem efrm12_2 (m : MethodId) (x0 : Addr) : entryFrame m #[(.ref x0)] 1 = mkF m 0 #[.val (.ref x0)] [] := by first | (simp [entryFrame, mkF, argsToLocals, Value.category]; done) | rfl
set_option maxRecDepth 65536 in
set_option maxHeartbeats 40000000 in
theorem rm12_2 (l : Launch) (Z : State) (a0 : Array Value) (hw : ∀ d ∈ tables_1, d.before a0 Z = true) (ws : List Jvm.Cond) (a1 : Addr) (s_Move_FIRST_CHILD : Addr) (h0 : Heap) (n0 : Nat) (Z0 : n0 ≤ h0.size) (P0 : Exa Z h0 a1 "com/example/decider/decider/library/xpath/Move") (P1 : Sta Z h0 "com/example/decider/decider/library/xpath/Move" "FIRST_CHILD" "Lcom/example/decider/decider/library/xpath/Move;" (.ref s_Move_FIRST_CHILD)) (P2 : Fld Z h0 a1 "java/lang/Enum" "ordinal" "I" (.int (2 : Int32))) :
    MetFree l (⟨"com/example/decider/decider/library/xpath/Move", "inverse", "()Lcom/example/decider/decider/library/xpath/Move;"⟩ : MethodName) (head1 (Jvm.Cond.code (⟨"com/example/decider/decider/library/xpath/Move", "inverse", "()Lcom/example/decider/decider/library/xpath/Move;"⟩ : MethodName) prog_85_method_5_code 1 (some (.object "com/example/decider/decider/library/xpath/Move")) :: ws) ({ frames := 1, cells := 0, slots := 0, locals := 12 } : Room)) (fun a U => a = #[(.ref a1)] ∧ Z.Warmed39 U.vm ∧ U.heap = h0) (fun _ _ _ _ _ => True) (fun _ U o U' => ∃ v L, o = .returned v ∧ Qrm12_2 Z a1 s_Move_FIRST_CHILD h0 n0 v U'.heap L ∧ FrameEnd U o U' L ({ frames := 1, cells := 0, slots := 0, locals := 12 } : Room).cells ({ frames := 1, cells := 0, slots := 0, locals := 12 } : Room).slots) := by
  refine MetFree.of_bodySF (plainFor_of_name pn_1) hisR ?_
  intro p e s m args below meth c s₁ Bd hml0 hP hK
  obtain ⟨rfl, hZ, hh⟩ := hP
  have hx := Bd.exec
  have hby := Bd.bytes
  have hml : c.maxLocals = 1 := hml0
  have hown : s.vm.findClass "com/example/decider/decider/library/xpath/Move" = some m.cls := findClass_of_methodNamed Bd.named
  have hnm := (name_of_methodNamed Bd.named Bd.method).1
  have X0 : Stand p l e ({ frames := 1, cells := 0, slots := 0, locals := 12 } : Room) s m #[(.ref a1)] below meth c s₁ [] 0 0 := Stand.of_body Bd
  have e0 : s₁.heap = h0 := by rw [← hh, Bd.state]; rfl
  have N0 := Fr.nil n0
  have K0 : Keep h0 h0 [] := Keep.refl h0 _
  refine own_go (B := s₁.setTop (mkF m 0 #[.val (.ref a1)] [])) (fun t k => castTop (efrm12_2 m a1) k) ?_
  refine own_go (A := s₁.setTop (mkF m 0 #[.val (.ref a1)] [])) (B := s₁.setTop (mkF m 1 #[.val (.ref a1)] [(.ref a1)])) (fun t k => ?_) ?_
  · show Steps p.tables e below (s₁.setTop (mkF m 0 #[.val (.ref a1)] [])) _
    refine XS.aloadN X0.here hx rfl (hb hby d12_0) rfl rfl ?_
    exact k
  obtain ⟨cq50, kq50, q50a, q50b, q50c⟩ := isOf hZ e0 P0
  obtain ⟨_, _, ⟨T50, L50, k50, n50⟩, -, X50, ⟨Lc50, hQ50, l50, y50, z50⟩, st50⟩ := X0.virtualBackUp hx (x := (⟨"com/example/decider/decider/library/xpath/Move", "ordinal", "()I"⟩ : MethodName)) (y := (⟨"java/lang/Enum", "ordinal", "()I"⟩ : MethodName)) hown (mvT hZ (hw _ (List.mem_of_getElem? (i := 78) rfl))) (mvT hZ (hw _ (List.mem_of_getElem? (i := 79) rfl))) (mvT hZ (hw _ (List.mem_of_getElem? (i := 80) rfl))) (by decide) (mvT hZ (hw _ (List.mem_of_getElem? (i := 82) rfl))) (mvT hZ (hw _ (List.mem_of_getElem? (i := 81) rfl))) (backOf (W := 0) (rm13_2 l Z a0 hw [] a1 h0 n0 Z0 P2) hZ (hw _ (List.mem_of_getElem? (i := 84) rfl)) (hw _ (List.mem_of_getElem? (i := 83) rfl)) (by decide) (by decide)) q50a q50c (g := (mkF m 1 #[.val (.ref a1)] [(.ref a1)])) rfl (by rw [hml]; rfl) (Steps.refl _) (argsL := []) (rest := []) (lenOf pd_0 rfl) rfl (by show 2 * 0 + _ ≤ _; exact Nat.le_of_eq rfl) (hb hby d12_1) (fun _ _ => ⟨rfl, e0, (by decide : 0 + 0 ≤ _), (by decide : 0 + 0 ≤ _)⟩)
  dsimp only [Pt.U, Pt.locs, Pt.cells, Pt.slots] at X50 l50 y50 z50 st50 hQ50
  subst l50 y50 z50
  obtain ⟨rfl, Nq50, e50⟩ := hQ50
  have N50 := Fr.app N0 Nq50
  refine own_go (A := _) (B := T50.setTop (mkF m 4 #[.val (.ref a1)] [(.int (2 : Int32))])) (fun t k => st50.trans k) ?_
  refine own_go (A := T50.setTop (mkF m 4 #[.val (.ref a1)] [(.int (2 : Int32))])) (B := T50.setTop (mkF m 66 #[.val (.ref a1)] [])) (fun t k => ?_) ?_
  · show Steps p.tables e below (T50.setTop (mkF m 4 #[.val (.ref a1)] [(.int (2 : Int32))])) _
    refine XS.tswIn X50.here hx rfl (pc0 := 4) (pc' := 66) rfl (hb hby d12_4) rfl (by decide) (o := 62) (by decide) (by decide) (by decide) ?_
    exact k
  obtain ⟨T51, X51, e51, st51⟩ := getS2 X50 hx hZ hown (host := "") (Or.inl (hw _ (List.mem_of_getElem? (i := 93) rfl))) Via.refl e50 P1 (g := (mkF m 66 #[.val (.ref a1)] [])) rfl (hb hby d12_66)
  refine own_go st51 ?_
  refine own_go (A := T51.setTop (mkF m 69 #[.val (.ref a1)] [(.ref s_Move_FIRST_CHILD)])) (B := T51.setTop (mkF m 87 #[.val (.ref a1)] [(.ref s_Move_FIRST_CHILD)])) (fun t k => ?_) ?_
  · show Steps p.tables e below (T51.setTop (mkF m 69 #[.val (.ref a1)] [(.ref s_Move_FIRST_CHILD)])) _
    refine XS.goto X51.here hx rfl (pc0 := 69) (pc' := 87) rfl (hb hby d12_69) (by decide) (by decide) ?_
    exact k
  obtain ⟨fs, hr, hrun, hended, hW, hsame⟩ := X51.leave (v := some (.ref s_Move_FIRST_CHILD)) (fun h => by rw [Bd.returns] at h; cases h)
  refine ⟨_, _, ?_, hrun, hended, _, _, rfl, ?_, ⟨_, rfl⟩, hW, hsame.mono (by decide) (by decide)⟩
  · show Steps p.tables e below (T51.setTop (mkF m 87 #[.val (.ref a1)] [(.ref s_Move_FIRST_CHILD)])) _
    exact retOut X51 hx Bd.returns rfl (Or.inr (Or.inr (Or.inr (Or.inr ⟨rfl, rfl, rfl⟩)))) (hb hby d12_87) hr
  · show Qrm12_2 Z a1 s_Move_FIRST_CHILD h0 n0 _ T51.heap _
    rw [e51]
    exact ⟨rfl, N50, rfl⟩
def Qrm13_3 (Z : State) (a1 : Addr) (h0 : Heap) (n0 : Nat) (v : Option Value) (h : Heap) (L : List Loc) : Prop := v = some (.int (3 : Int32)) ∧ Fr n0 L ∧ h = h0
theorem efrm13_3 (m : MethodId) (x0 : Addr) : entryFrame m #[(.ref x0)] 1 = mkF m 0 #[.val (.ref x0)] [] := by first | (simp [entryFrame, mkF, argsToLocals, Value.category]; done) | rfl
set_option maxRecDepth 65536 in
set_option maxHeartbeats 40000000 in
theorem rm13_3 (l : Launch) (Z : State) (a0 : Array Value) (hw : ∀ d ∈ tables_1, d.before a0 Z = true) (ws : List Jvm.Cond) (a1 : Addr) (h0 : Heap) (n0 : Nat) (Z0 : n0 ≤ h0.size) (P0 : Fld Z h0 a1 "java/lang/Enum" "ordinal" "I" (.int (3 : Int32))) :
    MetFree l (⟨"java/lang/Enum", "ordinal", "()I"⟩ : MethodName) (head1 (Jvm.Cond.code (⟨"java/lang/Enum", "ordinal", "()I"⟩ : MethodName) jdk_37_method_2_code 1 (some .int) :: ws) ({ frames := 0, cells := 0, slots := 0, locals := 0 } : Room)) (fun a U => a = #[(.ref a1)] ∧ Z.Warmed39 U.vm ∧ U.heap = h0) (fun _ _ _ _ _ => True) (fun _ U o U' => ∃ v L, o = .returned v ∧ Qrm13_3 Z a1 h0 n0 v U'.heap L ∧ FrameEnd U o U' L ({ frames := 0, cells := 0, slots := 0, locals := 0 } : Room).cells ({ frames := 0, cells := 0, slots := 0, locals := 0 } : Room).slots) := by
  refine MetFree.of_bodySF (plainFor_of_name pn_4) hisR ?_
  intro p e s m args below meth c s₁ Bd hml0 hP hK
  obtain ⟨rfl, hZ, hh⟩ := hP
  have hx := Bd.exec
  have hby := Bd.bytes
  have hml : c.maxLocals = 1 := hml0
  have hown : s.vm.findClass "java/lang/Enum" = some m.cls := findClass_of_methodNamed Bd.named
  have hnm := (name_of_methodNamed Bd.named Bd.method).1
  have X0 : Stand p l e ({ frames := 0, cells := 0, slots := 0, locals := 0 } : Room) s m #[(.ref a1)] below meth c s₁ [] 0 0 := Stand.of_body Bd
  have e0 : s₁.heap = h0 := by rw [← hh, Bd.state]; rfl
  have N0 := Fr.nil n0
  have K0 : Keep h0 h0 [] := Keep.refl h0 _
  refine own_go (B := s₁.setTop (mkF m 0 #[.val (.ref a1)] [])) (fun t k => castTop (efrm13_3 m a1) k) ?_
  refine own_go (A := s₁.setTop (mkF m 0 #[.val (.ref a1)] [])) (B := s₁.setTop (mkF m 1 #[.val (.ref a1)] [(.ref a1)])) (fun t k => ?_) ?_
  · show Steps p.tables e below (s₁.setTop (mkF m 0 #[.val (.ref a1)] [])) _
    refine XS.aloadN X0.here hx rfl (hb hby d13_0) rfl rfl ?_
    exact k
  obtain ⟨T52, X52, e52, st52⟩ := getF X0 hx hZ hown (host := "") (Or.inl (hw _ (List.mem_of_getElem? (i := 85) rfl))) Via.refl e0 P0 (g := (mkF m 1 #[.val (.ref a1)] [(.ref a1)])) rfl rfl (hb hby d13_1)
  refine own_go st52 ?_
  obtain ⟨fs, hr, hrun, hended, hW, hsame⟩ := X52.leave (v := some (.int (3 : Int32))) (fun h => by rw [Bd.returns] at h; cases h)
  refine ⟨_, _, ?_, hrun, hended, _, _, rfl, ?_, ⟨_, rfl⟩, hW, hsame.mono (by decide) (by decide)⟩
  · show Steps p.tables e below (T52.setTop (mkF m 4 #[.val (.ref a1)] [(.int (3 : Int32))])) _
    exact retOut X52 hx Bd.returns rfl (Or.inl ⟨rfl, Or.inl rfl, _, rfl⟩) (hb hby d13_4) hr
  · show Qrm13_3 Z a1 h0 n0 _ T52.heap _
    rw [e52]
    exact ⟨rfl, N0, rfl⟩
def Qrm12_3 (Z : State) (a1 : Addr) (s_Move_NEXT_SIBLING : Addr) (h0 : Heap) (n0 : Nat) (v : Option Value) (h : Heap) (L : List Loc) : Prop := v = some (.ref s_Move_NEXT_SIBLING) ∧ Fr n0 L ∧ h = h0
theorem efrm12_3 (m : MethodId) (x0 : Addr) : entryFrame m #[(.ref x0)] 1 = mkF m 0 #[.val (.ref x0)] [] := by first | (simp [entryFrame, mkF, argsToLocals, Value.category]; done) | rfl
set_option maxRecDepth 65536 in
set_option maxHeartbeats 40000000 in
theorem rm12_3 (l : Launch) (Z : State) (a0 : Array Value) (hw : ∀ d ∈ tables_1, d.before a0 Z = true) (ws : List Jvm.Cond) (a1 : Addr) (s_Move_NEXT_SIBLING : Addr) (h0 : Heap) (n0 : Nat) (Z0 : n0 ≤ h0.size) (P0 : Exa Z h0 a1 "com/example/decider/decider/library/xpath/Move") (P1 : Sta Z h0 "com/example/decider/decider/library/xpath/Move" "NEXT_SIBLING" "Lcom/example/decider/decider/library/xpath/Move;" (.ref s_Move_NEXT_SIBLING)) (P2 : Fld Z h0 a1 "java/lang/Enum" "ordinal" "I" (.int (3 : Int32))) :
    MetFree l (⟨"com/example/decider/decider/library/xpath/Move", "inverse", "()Lcom/example/decider/decider/library/xpath/Move;"⟩ : MethodName) (head1 (Jvm.Cond.code (⟨"com/example/decider/decider/library/xpath/Move", "inverse", "()Lcom/example/decider/decider/library/xpath/Move;"⟩ : MethodName) prog_85_method_5_code 1 (some (.object "com/example/decider/decider/library/xpath/Move")) :: ws) ({ frames := 1, cells := 0, slots := 0, locals := 12 } : Room)) (fun a U => a = #[(.ref a1)] ∧ Z.Warmed39 U.vm ∧ U.heap = h0) (fun _ _ _ _ _ => True) (fun _ U o U' => ∃ v L, o = .returned v ∧ Qrm12_3 Z a1 s_Move_NEXT_SIBLING h0 n0 v U'.heap L ∧ FrameEnd U o U' L ({ frames := 1, cells := 0, slots := 0, locals := 12 } : Room).cells ({ frames := 1, cells := 0, slots := 0, locals := 12 } : Room).slots) := by
  refine MetFree.of_bodySF (plainFor_of_name pn_1) hisR ?_
  intro p e s m args below meth c s₁ Bd hml0 hP hK
  obtain ⟨rfl, hZ, hh⟩ := hP
  have hx := Bd.exec
  have hby := Bd.bytes
  have hml : c.maxLocals = 1 := hml0
  have hown : s.vm.findClass "com/example/decider/decider/library/xpath/Move" = some m.cls := findClass_of_methodNamed Bd.named
  have hnm := (name_of_methodNamed Bd.named Bd.method).1
  have X0 : Stand p l e ({ frames := 1, cells := 0, slots := 0, locals := 12 } : Room) s m #[(.ref a1)] below meth c s₁ [] 0 0 := Stand.of_body Bd
  have e0 : s₁.heap = h0 := by rw [← hh, Bd.state]; rfl
  have N0 := Fr.nil n0
  have K0 : Keep h0 h0 [] := Keep.refl h0 _
  refine own_go (B := s₁.setTop (mkF m 0 #[.val (.ref a1)] [])) (fun t k => castTop (efrm12_3 m a1) k) ?_
  refine own_go (A := s₁.setTop (mkF m 0 #[.val (.ref a1)] [])) (B := s₁.setTop (mkF m 1 #[.val (.ref a1)] [(.ref a1)])) (fun t k => ?_) ?_
  · show Steps p.tables e below (s₁.setTop (mkF m 0 #[.val (.ref a1)] [])) _
    refine XS.aloadN X0.here hx rfl (hb hby d12_0) rfl rfl ?_
    exact k
  obtain ⟨cq53, kq53, q53a, q53b, q53c⟩ := isOf hZ e0 P0
  obtain ⟨_, _, ⟨T53, L53, k53, n53⟩, -, X53, ⟨Lc53, hQ53, l53, y53, z53⟩, st53⟩ := X0.virtualBackUp hx (x := (⟨"com/example/decider/decider/library/xpath/Move", "ordinal", "()I"⟩ : MethodName)) (y := (⟨"java/lang/Enum", "ordinal", "()I"⟩ : MethodName)) hown (mvT hZ (hw _ (List.mem_of_getElem? (i := 78) rfl))) (mvT hZ (hw _ (List.mem_of_getElem? (i := 79) rfl))) (mvT hZ (hw _ (List.mem_of_getElem? (i := 80) rfl))) (by decide) (mvT hZ (hw _ (List.mem_of_getElem? (i := 82) rfl))) (mvT hZ (hw _ (List.mem_of_getElem? (i := 81) rfl))) (backOf (W := 0) (rm13_3 l Z a0 hw [] a1 h0 n0 Z0 P2) hZ (hw _ (List.mem_of_getElem? (i := 84) rfl)) (hw _ (List.mem_of_getElem? (i := 83) rfl)) (by decide) (by decide)) q53a q53c (g := (mkF m 1 #[.val (.ref a1)] [(.ref a1)])) rfl (by rw [hml]; rfl) (Steps.refl _) (argsL := []) (rest := []) (lenOf pd_0 rfl) rfl (by show 2 * 0 + _ ≤ _; exact Nat.le_of_eq rfl) (hb hby d12_1) (fun _ _ => ⟨rfl, e0, (by decide : 0 + 0 ≤ _), (by decide : 0 + 0 ≤ _)⟩)
  dsimp only [Pt.U, Pt.locs, Pt.cells, Pt.slots] at X53 l53 y53 z53 st53 hQ53
  subst l53 y53 z53
  obtain ⟨rfl, Nq53, e53⟩ := hQ53
  have N53 := Fr.app N0 Nq53
  refine own_go (A := _) (B := T53.setTop (mkF m 4 #[.val (.ref a1)] [(.int (3 : Int32))])) (fun t k => st53.trans k) ?_
  refine own_go (A := T53.setTop (mkF m 4 #[.val (.ref a1)] [(.int (3 : Int32))])) (B := T53.setTop (mkF m 72 #[.val (.ref a1)] [])) (fun t k => ?_) ?_
  · show Steps p.tables e below (T53.setTop (mkF m 4 #[.val (.ref a1)] [(.int (3 : Int32))])) _
    refine XS.tswIn X53.here hx rfl (pc0 := 4) (pc' := 72) rfl (hb hby d12_4) rfl (by decide) (o := 68) (by decide) (by decide) (by decide) ?_
    exact k
  obtain ⟨T54, X54, e54, st54⟩ := getS2 X53 hx hZ hown (host := "") (Or.inl (hw _ (List.mem_of_getElem? (i := 89) rfl))) Via.refl e53 P1 (g := (mkF m 72 #[.val (.ref a1)] [])) rfl (hb hby d12_72)
  refine own_go st54 ?_
  refine own_go (A := T54.setTop (mkF m 75 #[.val (.ref a1)] [(.ref s_Move_NEXT_SIBLING)])) (B := T54.setTop (mkF m 87 #[.val (.ref a1)] [(.ref s_Move_NEXT_SIBLING)])) (fun t k => ?_) ?_
  · show Steps p.tables e below (T54.setTop (mkF m 75 #[.val (.ref a1)] [(.ref s_Move_NEXT_SIBLING)])) _
    refine XS.goto X54.here hx rfl (pc0 := 75) (pc' := 87) rfl (hb hby d12_75) (by decide) (by decide) ?_
    exact k
  obtain ⟨fs, hr, hrun, hended, hW, hsame⟩ := X54.leave (v := some (.ref s_Move_NEXT_SIBLING)) (fun h => by rw [Bd.returns] at h; cases h)
  refine ⟨_, _, ?_, hrun, hended, _, _, rfl, ?_, ⟨_, rfl⟩, hW, hsame.mono (by decide) (by decide)⟩
  · show Steps p.tables e below (T54.setTop (mkF m 87 #[.val (.ref a1)] [(.ref s_Move_NEXT_SIBLING)])) _
    exact retOut X54 hx Bd.returns rfl (Or.inr (Or.inr (Or.inr (Or.inr ⟨rfl, rfl, rfl⟩)))) (hb hby d12_87) hr
  · show Qrm12_3 Z a1 s_Move_NEXT_SIBLING h0 n0 _ T54.heap _
    rw [e54]
    exact ⟨rfl, N53, rfl⟩
def Qrm13_4 (Z : State) (a1 : Addr) (h0 : Heap) (n0 : Nat) (v : Option Value) (h : Heap) (L : List Loc) : Prop := v = some (.int (4 : Int32)) ∧ Fr n0 L ∧ h = h0
theorem efrm13_4 (m : MethodId) (x0 : Addr) : entryFrame m #[(.ref x0)] 1 = mkF m 0 #[.val (.ref x0)] [] := by first | (simp [entryFrame, mkF, argsToLocals, Value.category]; done) | rfl
set_option maxRecDepth 65536 in
set_option maxHeartbeats 40000000 in
theorem rm13_4 (l : Launch) (Z : State) (a0 : Array Value) (hw : ∀ d ∈ tables_1, d.before a0 Z = true) (ws : List Jvm.Cond) (a1 : Addr) (h0 : Heap) (n0 : Nat) (Z0 : n0 ≤ h0.size) (P0 : Fld Z h0 a1 "java/lang/Enum" "ordinal" "I" (.int (4 : Int32))) :
    MetFree l (⟨"java/lang/Enum", "ordinal", "()I"⟩ : MethodName) (head1 (Jvm.Cond.code (⟨"java/lang/Enum", "ordinal", "()I"⟩ : MethodName) jdk_37_method_2_code 1 (some .int) :: ws) ({ frames := 0, cells := 0, slots := 0, locals := 0 } : Room)) (fun a U => a = #[(.ref a1)] ∧ Z.Warmed39 U.vm ∧ U.heap = h0) (fun _ _ _ _ _ => True) (fun _ U o U' => ∃ v L, o = .returned v ∧ Qrm13_4 Z a1 h0 n0 v U'.heap L ∧ FrameEnd U o U' L ({ frames := 0, cells := 0, slots := 0, locals := 0 } : Room).cells ({ frames := 0, cells := 0, slots := 0, locals := 0 } : Room).slots) := by
  refine MetFree.of_bodySF (plainFor_of_name pn_4) hisR ?_
  intro p e s m args below meth c s₁ Bd hml0 hP hK
  obtain ⟨rfl, hZ, hh⟩ := hP
  have hx := Bd.exec
  have hby := Bd.bytes
  have hml : c.maxLocals = 1 := hml0
  have hown : s.vm.findClass "java/lang/Enum" = some m.cls := findClass_of_methodNamed Bd.named
  have hnm := (name_of_methodNamed Bd.named Bd.method).1
  have X0 : Stand p l e ({ frames := 0, cells := 0, slots := 0, locals := 0 } : Room) s m #[(.ref a1)] below meth c s₁ [] 0 0 := Stand.of_body Bd
  have e0 : s₁.heap = h0 := by rw [← hh, Bd.state]; rfl
  have N0 := Fr.nil n0
  have K0 : Keep h0 h0 [] := Keep.refl h0 _
  refine own_go (B := s₁.setTop (mkF m 0 #[.val (.ref a1)] [])) (fun t k => castTop (efrm13_4 m a1) k) ?_
  refine own_go (A := s₁.setTop (mkF m 0 #[.val (.ref a1)] [])) (B := s₁.setTop (mkF m 1 #[.val (.ref a1)] [(.ref a1)])) (fun t k => ?_) ?_
  · show Steps p.tables e below (s₁.setTop (mkF m 0 #[.val (.ref a1)] [])) _
    refine XS.aloadN X0.here hx rfl (hb hby d13_0) rfl rfl ?_
    exact k
  obtain ⟨T55, X55, e55, st55⟩ := getF X0 hx hZ hown (host := "") (Or.inl (hw _ (List.mem_of_getElem? (i := 85) rfl))) Via.refl e0 P0 (g := (mkF m 1 #[.val (.ref a1)] [(.ref a1)])) rfl rfl (hb hby d13_1)
  refine own_go st55 ?_
  obtain ⟨fs, hr, hrun, hended, hW, hsame⟩ := X55.leave (v := some (.int (4 : Int32))) (fun h => by rw [Bd.returns] at h; cases h)
  refine ⟨_, _, ?_, hrun, hended, _, _, rfl, ?_, ⟨_, rfl⟩, hW, hsame.mono (by decide) (by decide)⟩
  · show Steps p.tables e below (T55.setTop (mkF m 4 #[.val (.ref a1)] [(.int (4 : Int32))])) _
    exact retOut X55 hx Bd.returns rfl (Or.inl ⟨rfl, Or.inl rfl, _, rfl⟩) (hb hby d13_4) hr
  · show Qrm13_4 Z a1 h0 n0 _ T55.heap _
    rw [e55]
    exact ⟨rfl, N0, rfl⟩
def Qrm12_4 (Z : State) (a1 : Addr) (s_Move_FROM_DOCUMENT : Addr) (h0 : Heap) (n0 : Nat) (v : Option Value) (h : Heap) (L : List Loc) : Prop := v = some (.ref s_Move_FROM_DOCUMENT) ∧ Fr n0 L ∧ h = h0
theorem efrm12_4 (m : MethodId) (x0 : Addr) : entryFrame m #[(.ref x0)] 1 = mkF m 0 #[.val (.ref x0)] [] := by first | (simp [entryFrame, mkF, argsToLocals, Value.category]; done) | rfl
set_option maxRecDepth 65536 in
set_option maxHeartbeats 40000000 in
theorem rm12_4 (l : Launch) (Z : State) (a0 : Array Value) (hw : ∀ d ∈ tables_1, d.before a0 Z = true) (ws : List Jvm.Cond) (a1 : Addr) (s_Move_FROM_DOCUMENT : Addr) (h0 : Heap) (n0 : Nat) (Z0 : n0 ≤ h0.size) (P0 : Exa Z h0 a1 "com/example/decider/decider/library/xpath/Move") (P1 : Sta Z h0 "com/example/decider/decider/library/xpath/Move" "FROM_DOCUMENT" "Lcom/example/decider/decider/library/xpath/Move;" (.ref s_Move_FROM_DOCUMENT)) (P2 : Fld Z h0 a1 "java/lang/Enum" "ordinal" "I" (.int (4 : Int32))) :
    MetFree l (⟨"com/example/decider/decider/library/xpath/Move", "inverse", "()Lcom/example/decider/decider/library/xpath/Move;"⟩ : MethodName) (head1 (Jvm.Cond.code (⟨"com/example/decider/decider/library/xpath/Move", "inverse", "()Lcom/example/decider/decider/library/xpath/Move;"⟩ : MethodName) prog_85_method_5_code 1 (some (.object "com/example/decider/decider/library/xpath/Move")) :: ws) ({ frames := 1, cells := 0, slots := 0, locals := 12 } : Room)) (fun a U => a = #[(.ref a1)] ∧ Z.Warmed39 U.vm ∧ U.heap = h0) (fun _ _ _ _ _ => True) (fun _ U o U' => ∃ v L, o = .returned v ∧ Qrm12_4 Z a1 s_Move_FROM_DOCUMENT h0 n0 v U'.heap L ∧ FrameEnd U o U' L ({ frames := 1, cells := 0, slots := 0, locals := 12 } : Room).cells ({ frames := 1, cells := 0, slots := 0, locals := 12 } : Room).slots) := by
  refine MetFree.of_bodySF (plainFor_of_name pn_1) hisR ?_
  intro p e s m args below meth c s₁ Bd hml0 hP hK
  obtain ⟨rfl, hZ, hh⟩ := hP
  have hx := Bd.exec
  have hby := Bd.bytes
  have hml : c.maxLocals = 1 := hml0
  have hown : s.vm.findClass "com/example/decider/decider/library/xpath/Move" = some m.cls := findClass_of_methodNamed Bd.named
  have hnm := (name_of_methodNamed Bd.named Bd.method).1
  have X0 : Stand p l e ({ frames := 1, cells := 0, slots := 0, locals := 12 } : Room) s m #[(.ref a1)] below meth c s₁ [] 0 0 := Stand.of_body Bd
  have e0 : s₁.heap = h0 := by rw [← hh, Bd.state]; rfl
  have N0 := Fr.nil n0
  have K0 : Keep h0 h0 [] := Keep.refl h0 _
  refine own_go (B := s₁.setTop (mkF m 0 #[.val (.ref a1)] [])) (fun t k => castTop (efrm12_4 m a1) k) ?_
  refine own_go (A := s₁.setTop (mkF m 0 #[.val (.ref a1)] [])) (B := s₁.setTop (mkF m 1 #[.val (.ref a1)] [(.ref a1)])) (fun t k => ?_) ?_
  · show Steps p.tables e below (s₁.setTop (mkF m 0 #[.val (.ref a1)] [])) _
    refine XS.aloadN X0.here hx rfl (hb hby d12_0) rfl rfl ?_
    exact k
  obtain ⟨cq56, kq56, q56a, q56b, q56c⟩ := isOf hZ e0 P0
  obtain ⟨_, _, ⟨T56, L56, k56, n56⟩, -, X56, ⟨Lc56, hQ56, l56, y56, z56⟩, st56⟩ := X0.virtualBackUp hx (x := (⟨"com/example/decider/decider/library/xpath/Move", "ordinal", "()I"⟩ : MethodName)) (y := (⟨"java/lang/Enum", "ordinal", "()I"⟩ : MethodName)) hown (mvT hZ (hw _ (List.mem_of_getElem? (i := 78) rfl))) (mvT hZ (hw _ (List.mem_of_getElem? (i := 79) rfl))) (mvT hZ (hw _ (List.mem_of_getElem? (i := 80) rfl))) (by decide) (mvT hZ (hw _ (List.mem_of_getElem? (i := 82) rfl))) (mvT hZ (hw _ (List.mem_of_getElem? (i := 81) rfl))) (backOf (W := 0) (rm13_4 l Z a0 hw [] a1 h0 n0 Z0 P2) hZ (hw _ (List.mem_of_getElem? (i := 84) rfl)) (hw _ (List.mem_of_getElem? (i := 83) rfl)) (by decide) (by decide)) q56a q56c (g := (mkF m 1 #[.val (.ref a1)] [(.ref a1)])) rfl (by rw [hml]; rfl) (Steps.refl _) (argsL := []) (rest := []) (lenOf pd_0 rfl) rfl (by show 2 * 0 + _ ≤ _; exact Nat.le_of_eq rfl) (hb hby d12_1) (fun _ _ => ⟨rfl, e0, (by decide : 0 + 0 ≤ _), (by decide : 0 + 0 ≤ _)⟩)
  dsimp only [Pt.U, Pt.locs, Pt.cells, Pt.slots] at X56 l56 y56 z56 st56 hQ56
  subst l56 y56 z56
  obtain ⟨rfl, Nq56, e56⟩ := hQ56
  have N56 := Fr.app N0 Nq56
  refine own_go (A := _) (B := T56.setTop (mkF m 4 #[.val (.ref a1)] [(.int (4 : Int32))])) (fun t k => st56.trans k) ?_
  refine own_go (A := T56.setTop (mkF m 4 #[.val (.ref a1)] [(.int (4 : Int32))])) (B := T56.setTop (mkF m 78 #[.val (.ref a1)] [])) (fun t k => ?_) ?_
  · show Steps p.tables e below (T56.setTop (mkF m 4 #[.val (.ref a1)] [(.int (4 : Int32))])) _
    refine XS.tswIn X56.here hx rfl (pc0 := 4) (pc' := 78) rfl (hb hby d12_4) rfl (by decide) (o := 74) (by decide) (by decide) (by decide) ?_
    exact k
  obtain ⟨T57, X57, e57, st57⟩ := getS2 X56 hx hZ hown (host := "") (Or.inl (hw _ (List.mem_of_getElem? (i := 99) rfl))) Via.refl e56 P1 (g := (mkF m 78 #[.val (.ref a1)] [])) rfl (hb hby d12_78)
  refine own_go st57 ?_
  refine own_go (A := T57.setTop (mkF m 81 #[.val (.ref a1)] [(.ref s_Move_FROM_DOCUMENT)])) (B := T57.setTop (mkF m 87 #[.val (.ref a1)] [(.ref s_Move_FROM_DOCUMENT)])) (fun t k => ?_) ?_
  · show Steps p.tables e below (T57.setTop (mkF m 81 #[.val (.ref a1)] [(.ref s_Move_FROM_DOCUMENT)])) _
    refine XS.goto X57.here hx rfl (pc0 := 81) (pc' := 87) rfl (hb hby d12_81) (by decide) (by decide) ?_
    exact k
  obtain ⟨fs, hr, hrun, hended, hW, hsame⟩ := X57.leave (v := some (.ref s_Move_FROM_DOCUMENT)) (fun h => by rw [Bd.returns] at h; cases h)
  refine ⟨_, _, ?_, hrun, hended, _, _, rfl, ?_, ⟨_, rfl⟩, hW, hsame.mono (by decide) (by decide)⟩
  · show Steps p.tables e below (T57.setTop (mkF m 87 #[.val (.ref a1)] [(.ref s_Move_FROM_DOCUMENT)])) _
    exact retOut X57 hx Bd.returns rfl (Or.inr (Or.inr (Or.inr (Or.inr ⟨rfl, rfl, rfl⟩)))) (hb hby d12_87) hr
  · show Qrm12_4 Z a1 s_Move_FROM_DOCUMENT h0 n0 _ T57.heap _
    rw [e57]
    exact ⟨rfl, N56, rfl⟩
def Qrm13_5 (Z : State) (a1 : Addr) (h0 : Heap) (n0 : Nat) (v : Option Value) (h : Heap) (L : List Loc) : Prop := v = some (.int (5 : Int32)) ∧ Fr n0 L ∧ h = h0
theorem efrm13_5 (m : MethodId) (x0 : Addr) : entryFrame m #[(.ref x0)] 1 = mkF m 0 #[.val (.ref x0)] [] := by first | (simp [entryFrame, mkF, argsToLocals, Value.category]; done) | rfl
set_option maxRecDepth 65536 in
set_option maxHeartbeats 40000000 in
theorem rm13_5 (l : Launch) (Z : State) (a0 : Array Value) (hw : ∀ d ∈ tables_1, d.before a0 Z = true) (ws : List Jvm.Cond) (a1 : Addr) (h0 : Heap) (n0 : Nat) (Z0 : n0 ≤ h0.size) (P0 : Fld Z h0 a1 "java/lang/Enum" "ordinal" "I" (.int (5 : Int32))) :
    MetFree l (⟨"java/lang/Enum", "ordinal", "()I"⟩ : MethodName) (head1 (Jvm.Cond.code (⟨"java/lang/Enum", "ordinal", "()I"⟩ : MethodName) jdk_37_method_2_code 1 (some .int) :: ws) ({ frames := 0, cells := 0, slots := 0, locals := 0 } : Room)) (fun a U => a = #[(.ref a1)] ∧ Z.Warmed39 U.vm ∧ U.heap = h0) (fun _ _ _ _ _ => True) (fun _ U o U' => ∃ v L, o = .returned v ∧ Qrm13_5 Z a1 h0 n0 v U'.heap L ∧ FrameEnd U o U' L ({ frames := 0, cells := 0, slots := 0, locals := 0 } : Room).cells ({ frames := 0, cells := 0, slots := 0, locals := 0 } : Room).slots) := by
  refine MetFree.of_bodySF (plainFor_of_name pn_4) hisR ?_
  intro p e s m args below meth c s₁ Bd hml0 hP hK
  obtain ⟨rfl, hZ, hh⟩ := hP
  have hx := Bd.exec
  have hby := Bd.bytes
  have hml : c.maxLocals = 1 := hml0
  have hown : s.vm.findClass "java/lang/Enum" = some m.cls := findClass_of_methodNamed Bd.named
  have hnm := (name_of_methodNamed Bd.named Bd.method).1
  have X0 : Stand p l e ({ frames := 0, cells := 0, slots := 0, locals := 0 } : Room) s m #[(.ref a1)] below meth c s₁ [] 0 0 := Stand.of_body Bd
  have e0 : s₁.heap = h0 := by rw [← hh, Bd.state]; rfl
  have N0 := Fr.nil n0
  have K0 : Keep h0 h0 [] := Keep.refl h0 _
  refine own_go (B := s₁.setTop (mkF m 0 #[.val (.ref a1)] [])) (fun t k => castTop (efrm13_5 m a1) k) ?_
  refine own_go (A := s₁.setTop (mkF m 0 #[.val (.ref a1)] [])) (B := s₁.setTop (mkF m 1 #[.val (.ref a1)] [(.ref a1)])) (fun t k => ?_) ?_
  · show Steps p.tables e below (s₁.setTop (mkF m 0 #[.val (.ref a1)] [])) _
    refine XS.aloadN X0.here hx rfl (hb hby d13_0) rfl rfl ?_
    exact k
  obtain ⟨T58, X58, e58, st58⟩ := getF X0 hx hZ hown (host := "") (Or.inl (hw _ (List.mem_of_getElem? (i := 85) rfl))) Via.refl e0 P0 (g := (mkF m 1 #[.val (.ref a1)] [(.ref a1)])) rfl rfl (hb hby d13_1)
  refine own_go st58 ?_
  obtain ⟨fs, hr, hrun, hended, hW, hsame⟩ := X58.leave (v := some (.int (5 : Int32))) (fun h => by rw [Bd.returns] at h; cases h)
  refine ⟨_, _, ?_, hrun, hended, _, _, rfl, ?_, ⟨_, rfl⟩, hW, hsame.mono (by decide) (by decide)⟩
  · show Steps p.tables e below (T58.setTop (mkF m 4 #[.val (.ref a1)] [(.int (5 : Int32))])) _
    exact retOut X58 hx Bd.returns rfl (Or.inl ⟨rfl, Or.inl rfl, _, rfl⟩) (hb hby d13_4) hr
  · show Qrm13_5 Z a1 h0 n0 _ T58.heap _
    rw [e58]
    exact ⟨rfl, N0, rfl⟩
def Qrm12_5 (Z : State) (a1 : Addr) (s_Move_TO_DOCUMENT : Addr) (h0 : Heap) (n0 : Nat) (v : Option Value) (h : Heap) (L : List Loc) : Prop := v = some (.ref s_Move_TO_DOCUMENT) ∧ Fr n0 L ∧ h = h0
theorem efrm12_5 (m : MethodId) (x0 : Addr) : entryFrame m #[(.ref x0)] 1 = mkF m 0 #[.val (.ref x0)] [] := by first | (simp [entryFrame, mkF, argsToLocals, Value.category]; done) | rfl
set_option maxRecDepth 65536 in
set_option maxHeartbeats 40000000 in
theorem rm12_5 (l : Launch) (Z : State) (a0 : Array Value) (hw : ∀ d ∈ tables_1, d.before a0 Z = true) (ws : List Jvm.Cond) (a1 : Addr) (s_Move_TO_DOCUMENT : Addr) (h0 : Heap) (n0 : Nat) (Z0 : n0 ≤ h0.size) (P0 : Exa Z h0 a1 "com/example/decider/decider/library/xpath/Move") (P1 : Sta Z h0 "com/example/decider/decider/library/xpath/Move" "TO_DOCUMENT" "Lcom/example/decider/decider/library/xpath/Move;" (.ref s_Move_TO_DOCUMENT)) (P2 : Fld Z h0 a1 "java/lang/Enum" "ordinal" "I" (.int (5 : Int32))) :
    MetFree l (⟨"com/example/decider/decider/library/xpath/Move", "inverse", "()Lcom/example/decider/decider/library/xpath/Move;"⟩ : MethodName) (head1 (Jvm.Cond.code (⟨"com/example/decider/decider/library/xpath/Move", "inverse", "()Lcom/example/decider/decider/library/xpath/Move;"⟩ : MethodName) prog_85_method_5_code 1 (some (.object "com/example/decider/decider/library/xpath/Move")) :: ws) ({ frames := 1, cells := 0, slots := 0, locals := 12 } : Room)) (fun a U => a = #[(.ref a1)] ∧ Z.Warmed39 U.vm ∧ U.heap = h0) (fun _ _ _ _ _ => True) (fun _ U o U' => ∃ v L, o = .returned v ∧ Qrm12_5 Z a1 s_Move_TO_DOCUMENT h0 n0 v U'.heap L ∧ FrameEnd U o U' L ({ frames := 1, cells := 0, slots := 0, locals := 12 } : Room).cells ({ frames := 1, cells := 0, slots := 0, locals := 12 } : Room).slots) := by
  refine MetFree.of_bodySF (plainFor_of_name pn_1) hisR ?_
  intro p e s m args below meth c s₁ Bd hml0 hP hK
  obtain ⟨rfl, hZ, hh⟩ := hP
  have hx := Bd.exec
  have hby := Bd.bytes
  have hml : c.maxLocals = 1 := hml0
  have hown : s.vm.findClass "com/example/decider/decider/library/xpath/Move" = some m.cls := findClass_of_methodNamed Bd.named
  have hnm := (name_of_methodNamed Bd.named Bd.method).1
  have X0 : Stand p l e ({ frames := 1, cells := 0, slots := 0, locals := 12 } : Room) s m #[(.ref a1)] below meth c s₁ [] 0 0 := Stand.of_body Bd
  have e0 : s₁.heap = h0 := by rw [← hh, Bd.state]; rfl
  have N0 := Fr.nil n0
  have K0 : Keep h0 h0 [] := Keep.refl h0 _
  refine own_go (B := s₁.setTop (mkF m 0 #[.val (.ref a1)] [])) (fun t k => castTop (efrm12_5 m a1) k) ?_
  refine own_go (A := s₁.setTop (mkF m 0 #[.val (.ref a1)] [])) (B := s₁.setTop (mkF m 1 #[.val (.ref a1)] [(.ref a1)])) (fun t k => ?_) ?_
  · show Steps p.tables e below (s₁.setTop (mkF m 0 #[.val (.ref a1)] [])) _
    refine XS.aloadN X0.here hx rfl (hb hby d12_0) rfl rfl ?_
    exact k
  obtain ⟨cq59, kq59, q59a, q59b, q59c⟩ := isOf hZ e0 P0
  obtain ⟨_, _, ⟨T59, L59, k59, n59⟩, -, X59, ⟨Lc59, hQ59, l59, y59, z59⟩, st59⟩ := X0.virtualBackUp hx (x := (⟨"com/example/decider/decider/library/xpath/Move", "ordinal", "()I"⟩ : MethodName)) (y := (⟨"java/lang/Enum", "ordinal", "()I"⟩ : MethodName)) hown (mvT hZ (hw _ (List.mem_of_getElem? (i := 78) rfl))) (mvT hZ (hw _ (List.mem_of_getElem? (i := 79) rfl))) (mvT hZ (hw _ (List.mem_of_getElem? (i := 80) rfl))) (by decide) (mvT hZ (hw _ (List.mem_of_getElem? (i := 82) rfl))) (mvT hZ (hw _ (List.mem_of_getElem? (i := 81) rfl))) (backOf (W := 0) (rm13_5 l Z a0 hw [] a1 h0 n0 Z0 P2) hZ (hw _ (List.mem_of_getElem? (i := 84) rfl)) (hw _ (List.mem_of_getElem? (i := 83) rfl)) (by decide) (by decide)) q59a q59c (g := (mkF m 1 #[.val (.ref a1)] [(.ref a1)])) rfl (by rw [hml]; rfl) (Steps.refl _) (argsL := []) (rest := []) (lenOf pd_0 rfl) rfl (by show 2 * 0 + _ ≤ _; exact Nat.le_of_eq rfl) (hb hby d12_1) (fun _ _ => ⟨rfl, e0, (by decide : 0 + 0 ≤ _), (by decide : 0 + 0 ≤ _)⟩)
  dsimp only [Pt.U, Pt.locs, Pt.cells, Pt.slots] at X59 l59 y59 z59 st59 hQ59
  subst l59 y59 z59
  obtain ⟨rfl, Nq59, e59⟩ := hQ59
  have N59 := Fr.app N0 Nq59
  refine own_go (A := _) (B := T59.setTop (mkF m 4 #[.val (.ref a1)] [(.int (5 : Int32))])) (fun t k => st59.trans k) ?_
  refine own_go (A := T59.setTop (mkF m 4 #[.val (.ref a1)] [(.int (5 : Int32))])) (B := T59.setTop (mkF m 84 #[.val (.ref a1)] [])) (fun t k => ?_) ?_
  · show Steps p.tables e below (T59.setTop (mkF m 4 #[.val (.ref a1)] [(.int (5 : Int32))])) _
    refine XS.tswIn X59.here hx rfl (pc0 := 4) (pc' := 84) rfl (hb hby d12_4) rfl (by decide) (o := 80) (by decide) (by decide) (by decide) ?_
    exact k
  obtain ⟨T60, X60, e60, st60⟩ := getS2 X59 hx hZ hown (host := "") (Or.inl (hw _ (List.mem_of_getElem? (i := 17) rfl))) Via.refl e59 P1 (g := (mkF m 84 #[.val (.ref a1)] [])) rfl (hb hby d12_84)
  refine own_go st60 ?_
  obtain ⟨fs, hr, hrun, hended, hW, hsame⟩ := X60.leave (v := some (.ref s_Move_TO_DOCUMENT)) (fun h => by rw [Bd.returns] at h; cases h)
  refine ⟨_, _, ?_, hrun, hended, _, _, rfl, ?_, ⟨_, rfl⟩, hW, hsame.mono (by decide) (by decide)⟩
  · show Steps p.tables e below (T60.setTop (mkF m 87 #[.val (.ref a1)] [(.ref s_Move_TO_DOCUMENT)])) _
    exact retOut X60 hx Bd.returns rfl (Or.inr (Or.inr (Or.inr (Or.inr ⟨rfl, rfl, rfl⟩)))) (hb hby d12_87) hr
  · show Qrm12_5 Z a1 s_Move_TO_DOCUMENT h0 n0 _ T60.heap _
    rw [e60]
    exact ⟨rfl, N59, rfl⟩
def Qrm5_3 (Z : State) (a1 : Addr) (cs : Int32) (x0 : Int32) (x1 : Int32) (x2 : Int32) (b1 : Addr) (k1 : ClassId) (h0 : Heap) (n0 : Nat) (v : Option Value) (h : Heap) (L : List Loc) : Prop := v = some (.int (3 : Int32)) ∧ Fr n0 L ∧ h = h0
theorem efrm5_3 (m : MethodId) (x0 : Addr) : entryFrame m #[(.ref x0)] 1 = mkF m 0 #[.val (.ref x0)] [] := by first | (simp [entryFrame, mkF, argsToLocals, Value.category]; done) | rfl
set_option maxRecDepth 65536 in
set_option maxHeartbeats 40000000 in
theorem rm5_3 (l : Launch) (Z : State) (a0 : Array Value) (hw : ∀ d ∈ tables_1, d.before a0 Z = true) (ws : List Jvm.Cond) (a1 : Addr) (cs : Int32) (x0 : Int32) (x1 : Int32) (x2 : Int32) (b1 : Addr) (k1 : ClassId) (h0 : Heap) (n0 : Nat) (Z0 : n0 ≤ h0.size) (P0 : Exa Z h0 a1 "java/lang/String") (P1 : Sta Z h0 "java/lang/String" "COMPACT_STRINGS" "Z" (.int cs)) (P2 : Fld Z h0 a1 "java/lang/String" "coder" "B" (.int (0 : Int32))) (P3 : Fld Z h0 a1 "java/lang/String" "value" "[B" (.ref b1)) (P4 : Arv Z h0 b1 k1 .byte (3 : Int32) [(.int x0), (.int x1), (.int x2)] (.int (0 : Int32))) (hcs : ¬ (cs = (0 : Int32))) :
    MetFree l (⟨"java/lang/String", "length", "()I"⟩ : MethodName) (head1 (Jvm.Cond.code (⟨"java/lang/String", "length", "()I"⟩ : MethodName) jdk_42_method_54_code 1 (some .int) :: ws) ({ frames := 1, cells := 0, slots := 0, locals := 13 } : Room)) (fun a U => a = #[(.ref a1)] ∧ Z.Warmed39 U.vm ∧ U.heap = h0) (fun _ _ _ _ _ => True) (fun _ U o U' => ∃ v L, o = .returned v ∧ Qrm5_3 Z a1 cs x0 x1 x2 b1 k1 h0 n0 v U'.heap L ∧ FrameEnd U o U' L ({ frames := 1, cells := 0, slots := 0, locals := 13 } : Room).cells ({ frames := 1, cells := 0, slots := 0, locals := 13 } : Room).slots) := by
  refine MetFree.of_bodySF (plainFor_of_name pn_3) hisR ?_
  intro p e s m args below meth c s₁ Bd hml0 hP hK
  obtain ⟨rfl, hZ, hh⟩ := hP
  have hx := Bd.exec
  have hby := Bd.bytes
  have hml : c.maxLocals = 1 := hml0
  have hown : s.vm.findClass "java/lang/String" = some m.cls := findClass_of_methodNamed Bd.named
  have hnm := (name_of_methodNamed Bd.named Bd.method).1
  have X0 : Stand p l e ({ frames := 1, cells := 0, slots := 0, locals := 13 } : Room) s m #[(.ref a1)] below meth c s₁ [] 0 0 := Stand.of_body Bd
  have e0 : s₁.heap = h0 := by rw [← hh, Bd.state]; rfl
  have N0 := Fr.nil n0
  have K0 : Keep h0 h0 [] := Keep.refl h0 _
  refine own_go (B := s₁.setTop (mkF m 0 #[.val (.ref a1)] [])) (fun t k => castTop (efrm5_3 m a1) k) ?_
  refine own_go (A := s₁.setTop (mkF m 0 #[.val (.ref a1)] [])) (B := s₁.setTop (mkF m 1 #[.val (.ref a1)] [(.ref a1)])) (fun t k => ?_) ?_
  · show Steps p.tables e below (s₁.setTop (mkF m 0 #[.val (.ref a1)] [])) _
    refine XS.aloadN X0.here hx rfl (hb hby d5_0) rfl rfl ?_
    exact k
  obtain ⟨T61, X61, e61, st61⟩ := getF X0 hx hZ hown (host := "") (Or.inl (hw _ (List.mem_of_getElem? (i := 41) rfl))) Via.refl e0 P3 (g := (mkF m 1 #[.val (.ref a1)] [(.ref a1)])) rfl rfl (hb hby d5_1)
  refine own_go st61 ?_
  obtain ⟨cl62, Ar62, q62, S62, M62, Ha62, G62⟩ := id P4
  refine own_go (A := T61.setTop (mkF m 4 #[.val (.ref a1)] [(.ref b1)])) (B := T61.setTop (mkF m 5 #[.val (.ref a1)] [(.int (3 : Int32))])) (fun t k => ?_) ?_
  · refine X61.arraylength hx (by rw [e61]; exact Ar62.1) (State.isArrayOf_alike hZ.alike Ar62.2.1) (g := (mkF m 4 #[.val (.ref a1)] [(.ref b1)])) rfl rfl (hb hby d5_4) _ ?_
    rw [len_of S62 M62]
    exact k
  refine own_go (A := T61.setTop (mkF m 5 #[.val (.ref a1)] [(.int (3 : Int32))])) (B := T61.setTop (mkF m 6 #[.val (.ref a1)] [(.ref a1), (.int (3 : Int32))])) (fun t k => ?_) ?_
  · show Steps p.tables e below (T61.setTop (mkF m 5 #[.val (.ref a1)] [(.int (3 : Int32))])) _
    refine XS.aloadN X61.here hx rfl (hb hby d5_5) rfl rfl ?_
    exact k
  obtain ⟨cq63, kq63, q63a, q63b, q63c⟩ := isOf hZ e61 P0
  obtain ⟨_, _, ⟨T63, L63, k63, n63⟩, -, X63, ⟨Lc63, hQ63, l63, y63, z63⟩, st63⟩ := X61.virtualBack hx (y := (⟨"java/lang/String", "coder", "()B"⟩ : MethodName)) (z := (⟨"java/lang/String", "coder", "()B"⟩ : MethodName)) hown (mvT hZ (hw _ (List.mem_of_getElem? (i := 43) rfl))) (mvT hZ (hw _ (List.mem_of_getElem? (i := 44) rfl))) (notFace_of_selects (args := #[]) (mvT hZ (hw _ (List.mem_of_getElem? (i := 46) rfl)))) (mvT hZ (hw _ (List.mem_of_getElem? (i := 46) rfl))) (mvT hZ (hw _ (List.mem_of_getElem? (i := 45) rfl))) (by decide) (backOf (W := 1) (rm6 l Z a0 hw [] a1 cs h0 n0 Z0 P1 P2 hcs) hZ (hw _ (List.mem_of_getElem? (i := 47) rfl)) (hw _ (List.mem_of_getElem? (i := 39) rfl)) (by decide) (by decide)) q63a q63c (g := (mkF m 6 #[.val (.ref a1)] [(.ref a1), (.int (3 : Int32))])) rfl (by rw [hml]; rfl) (Steps.refl _) (argsL := []) (rest := [(.int (3 : Int32))]) (lenOf pd_1 rfl) rfl (by show 2 * 0 + _ ≤ _; exact Nat.le_of_eq rfl) (hb hby d5_6) (fun _ _ => ⟨rfl, e61, (by decide : 0 + 0 ≤ _), (by decide : 0 + 0 ≤ _)⟩)
  dsimp only [Pt.U, Pt.locs, Pt.cells, Pt.slots] at X63 l63 y63 z63 st63 hQ63
  subst l63 y63 z63
  obtain ⟨rfl, Nq63, e63⟩ := hQ63
  have N63 := Fr.app N0 Nq63
  refine own_go (A := _) (B := T63.setTop (mkF m 9 #[.val (.ref a1)] [(.int (0 : Int32)), (.int (3 : Int32))])) (fun t k => st63.trans k) ?_
  refine own_go (A := T63.setTop (mkF m 9 #[.val (.ref a1)] [(.int (0 : Int32)), (.int (3 : Int32))])) (B := T63.setTop (mkF m 10 #[.val (.ref a1)] [(.int (3 : Int32))])) (fun t k => ?_) ?_
  · show Steps p.tables e below (T63.setTop (mkF m 9 #[.val (.ref a1)] [(.int (0 : Int32)), (.int (3 : Int32))])) _
    refine XS.ishr X63.here hx rfl (hb hby d5_9) rfl ?_
    exact k
  obtain ⟨fs, hr, hrun, hended, hW, hsame⟩ := X63.leave (v := some (.int (3 : Int32))) (fun h => by rw [Bd.returns] at h; cases h)
  refine ⟨_, _, ?_, hrun, hended, _, _, rfl, ?_, ⟨_, rfl⟩, hW, hsame.mono (by decide) (by decide)⟩
  · show Steps p.tables e below (T63.setTop (mkF m 10 #[.val (.ref a1)] [(.int (3 : Int32))])) _
    exact retOut X63 hx Bd.returns rfl (Or.inl ⟨rfl, Or.inl rfl, _, rfl⟩) (hb hby d5_10) hr
  · show Qrm5_3 Z a1 cs x0 x1 x2 b1 k1 h0 n0 _ T63.heap _
    rw [e63]
    exact ⟨rfl, N63, rfl⟩
def Qrm11_3 (Z : State) (fmt : Addr) (h0 : Heap) (n0 : Nat) (v : Option Value) (h : Heap) (L : List Loc) : Prop := v = some (.int (1 : Int32)) ∧ Fr n0 L ∧ h = h0
theorem efrm11_3 (m : MethodId) (x2 : Addr) : entryFrame m #[(.int (1 : Int32)), (.int (3 : Int32)), (.ref x2)] 3 = mkF m 0 #[.val (.int (1 : Int32)), .val (.int (3 : Int32)), .val (.ref x2)] [] := by first | (simp [entryFrame, mkF, argsToLocals, Value.category]; done) | rfl
set_option maxRecDepth 65536 in
set_option maxHeartbeats 40000000 in
theorem rm11_3 (l : Launch) (Z : State) (a0 : Array Value) (hw : ∀ d ∈ tables_1, d.before a0 Z = true) (ws : List Jvm.Cond) (fmt : Addr) (h0 : Heap) (n0 : Nat) (Z0 : n0 ≤ h0.size)  :
    MetFree l (⟨"jdk/internal/util/Preconditions", "checkIndex", "(IILjava/util/function/BiFunction;)I"⟩ : MethodName) (head1 (Jvm.Cond.code (⟨"jdk/internal/util/Preconditions", "checkIndex", "(IILjava/util/function/BiFunction;)I"⟩ : MethodName) jdk_41_method_11_code 3 (some .int) :: ws) ({ frames := 0, cells := 0, slots := 0, locals := 0 } : Room)) (fun a U => a = #[(.int (1 : Int32)), (.int (3 : Int32)), (.ref fmt)] ∧ Z.Warmed39 U.vm ∧ U.heap = h0) (fun _ _ _ _ _ => True) (fun _ U o U' => ∃ v L, o = .returned v ∧ Qrm11_3 Z fmt h0 n0 v U'.heap L ∧ FrameEnd U o U' L ({ frames := 0, cells := 0, slots := 0, locals := 0 } : Room).cells ({ frames := 0, cells := 0, slots := 0, locals := 0 } : Room).slots) := by
  refine MetFree.of_bodySF (plainFor_of_name pn_5) hisR ?_
  intro p e s m args below meth c s₁ Bd hml0 hP hK
  obtain ⟨rfl, hZ, hh⟩ := hP
  have hx := Bd.exec
  have hby := Bd.bytes
  have hml : c.maxLocals = 3 := hml0
  have hown : s.vm.findClass "jdk/internal/util/Preconditions" = some m.cls := findClass_of_methodNamed Bd.named
  have hnm := (name_of_methodNamed Bd.named Bd.method).1
  have X0 : Stand p l e ({ frames := 0, cells := 0, slots := 0, locals := 0 } : Room) s m #[(.int (1 : Int32)), (.int (3 : Int32)), (.ref fmt)] below meth c s₁ [] 0 0 := Stand.of_body Bd
  have e0 : s₁.heap = h0 := by rw [← hh, Bd.state]; rfl
  have N0 := Fr.nil n0
  have K0 : Keep h0 h0 [] := Keep.refl h0 _
  refine own_go (B := s₁.setTop (mkF m 0 #[.val (.int (1 : Int32)), .val (.int (3 : Int32)), .val (.ref fmt)] [])) (fun t k => castTop (efrm11_3 m fmt) k) ?_
  refine own_go (A := s₁.setTop (mkF m 0 #[.val (.int (1 : Int32)), .val (.int (3 : Int32)), .val (.ref fmt)] [])) (B := s₁.setTop (mkF m 17 #[.val (.int (1 : Int32)), .val (.int (3 : Int32)), .val (.ref fmt)] [(.int (1 : Int32))])) (fun t k => ?_) ?_
  · show Steps p.tables e below (s₁.setTop (mkF m 0 #[.val (.int (1 : Int32)), .val (.int (3 : Int32)), .val (.ref fmt)] [])) _
    refine XS.iloadN X0.here hx rfl (hb hby d11_0) rfl ?_
    show Steps p.tables e below (s₁.setTop (mkF m 1 #[.val (.int (1 : Int32)), .val (.int (3 : Int32)), .val (.ref fmt)] [(.int (1 : Int32))])) _
    refine XS.ifNo X0.here hx rfl (hb hby d11_1) rfl ((if0 _ _).trans (flt (by decide : ¬ ((1 : Int32) < (0 : Int32)))).1) ?_
    show Steps p.tables e below (s₁.setTop (mkF m 4 #[.val (.int (1 : Int32)), .val (.int (3 : Int32)), .val (.ref fmt)] [])) _
    refine XS.iloadN X0.here hx rfl (hb hby d11_4) rfl ?_
    show Steps p.tables e below (s₁.setTop (mkF m 5 #[.val (.int (1 : Int32)), .val (.int (3 : Int32)), .val (.ref fmt)] [(.int (1 : Int32))])) _
    refine XS.iloadN X0.here hx rfl (hb hby d11_5) rfl ?_
    show Steps p.tables e below (s₁.setTop (mkF m 6 #[.val (.int (1 : Int32)), .val (.int (3 : Int32)), .val (.ref fmt)] [(.int (3 : Int32)), (.int (1 : Int32))])) _
    refine XS.icmpYes X0.here hx rfl (pc0 := 6) (pc' := 16) rfl (hb hby d11_6) rfl (tlt (by decide : ((1 : Int32) < (3 : Int32)))).1 (by decide) (by decide) ?_
    show Steps p.tables e below (s₁.setTop (mkF m 16 #[.val (.int (1 : Int32)), .val (.int (3 : Int32)), .val (.ref fmt)] [])) _
    refine XS.iloadN X0.here hx rfl (hb hby d11_16) rfl ?_
    exact k
  obtain ⟨fs, hr, hrun, hended, hW, hsame⟩ := X0.leave (v := some (.int (1 : Int32))) (fun h => by rw [Bd.returns] at h; cases h)
  refine ⟨_, _, ?_, hrun, hended, _, _, rfl, ?_, ⟨_, rfl⟩, hW, hsame.mono (by decide) (by decide)⟩
  · show Steps p.tables e below (s₁.setTop (mkF m 17 #[.val (.int (1 : Int32)), .val (.int (3 : Int32)), .val (.ref fmt)] [(.int (1 : Int32))])) _
    exact retOut X0 hx Bd.returns rfl (Or.inl ⟨rfl, Or.inl rfl, _, rfl⟩) (hb hby d11_17) hr
  · show Qrm11_3 Z fmt h0 n0 _ s₁.heap _
    rw [e0]
    exact ⟨rfl, N0, rfl⟩
def Qrm10_3 (Z : State) (fmt : Addr) (h0 : Heap) (n0 : Nat) (v : Option Value) (h : Heap) (L : List Loc) : Prop := v = none ∧ Fr n0 L ∧ h = h0
theorem efrm10_3 (m : MethodId)  : entryFrame m #[(.int (1 : Int32)), (.int (3 : Int32))] 2 = mkF m 0 #[.val (.int (1 : Int32)), .val (.int (3 : Int32))] [] := by first | (simp [entryFrame, mkF, argsToLocals, Value.category]; done) | rfl
set_option maxRecDepth 65536 in
set_option maxHeartbeats 40000000 in
theorem rm10_3 (l : Launch) (Z : State) (a0 : Array Value) (hw : ∀ d ∈ tables_1, d.before a0 Z = true) (ws : List Jvm.Cond) (fmt : Addr) (h0 : Heap) (n0 : Nat) (Z0 : n0 ≤ h0.size) (P0 : Sta Z h0 "jdk/internal/util/Preconditions" "SIOOBE_FORMATTER" "Ljava/util/function/BiFunction;" (.ref fmt)) :
    MetFree l (⟨"java/lang/String", "checkIndex", "(II)V"⟩ : MethodName) (head1 (Jvm.Cond.code (⟨"java/lang/String", "checkIndex", "(II)V"⟩ : MethodName) jdk_42_method_155_code 2 none :: ws) ({ frames := 1, cells := 0, slots := 0, locals := 14 } : Room)) (fun a U => a = #[(.int (1 : Int32)), (.int (3 : Int32))] ∧ Z.Warmed39 U.vm ∧ U.heap = h0) (fun _ _ _ _ _ => True) (fun _ U o U' => ∃ v L, o = .returned v ∧ Qrm10_3 Z fmt h0 n0 v U'.heap L ∧ FrameEnd U o U' L ({ frames := 1, cells := 0, slots := 0, locals := 14 } : Room).cells ({ frames := 1, cells := 0, slots := 0, locals := 14 } : Room).slots) := by
  refine MetFree.of_bodySF (plainFor_of_name pn_3) hisR ?_
  intro p e s m args below meth c s₁ Bd hml0 hP hK
  obtain ⟨rfl, hZ, hh⟩ := hP
  have hx := Bd.exec
  have hby := Bd.bytes
  have hml : c.maxLocals = 2 := hml0
  have hown : s.vm.findClass "java/lang/String" = some m.cls := findClass_of_methodNamed Bd.named
  have hnm := (name_of_methodNamed Bd.named Bd.method).1
  have X0 : Stand p l e ({ frames := 1, cells := 0, slots := 0, locals := 14 } : Room) s m #[(.int (1 : Int32)), (.int (3 : Int32))] below meth c s₁ [] 0 0 := Stand.of_body Bd
  have e0 : s₁.heap = h0 := by rw [← hh, Bd.state]; rfl
  have N0 := Fr.nil n0
  have K0 : Keep h0 h0 [] := Keep.refl h0 _
  refine own_go (B := s₁.setTop (mkF m 0 #[.val (.int (1 : Int32)), .val (.int (3 : Int32))] [])) (fun t k => castTop (efrm10_3 m ) k) ?_
  refine own_go (A := s₁.setTop (mkF m 0 #[.val (.int (1 : Int32)), .val (.int (3 : Int32))] [])) (B := s₁.setTop (mkF m 2 #[.val (.int (1 : Int32)), .val (.int (3 : Int32))] [(.int (3 : Int32)), (.int (1 : Int32))])) (fun t k => ?_) ?_
  · show Steps p.tables e below (s₁.setTop (mkF m 0 #[.val (.int (1 : Int32)), .val (.int (3 : Int32))] [])) _
    refine XS.iloadN X0.here hx rfl (hb hby d10_0) rfl ?_
    show Steps p.tables e below (s₁.setTop (mkF m 1 #[.val (.int (1 : Int32)), .val (.int (3 : Int32))] [(.int (1 : Int32))])) _
    refine XS.iloadN X0.here hx rfl (hb hby d10_1) rfl ?_
    exact k
  obtain ⟨T66, X66, e66, st66⟩ := getS2 X0 hx hZ hown (host := "") (Or.inl (hw _ (List.mem_of_getElem? (i := 68) rfl))) Via.refl e0 P0 (g := (mkF m 2 #[.val (.int (1 : Int32)), .val (.int (3 : Int32))] [(.int (3 : Int32)), (.int (1 : Int32))])) rfl (hb hby d10_2)
  refine own_go st66 ?_
  obtain ⟨_, _, ⟨T67, L67, k67, n67⟩, -, X67, ⟨Lc67, hQ67, l67, y67, z67⟩, st67⟩ := Jvm.LawKit.callS X66 hx (y := (⟨"jdk/internal/util/Preconditions", "checkIndex", "(IILjava/util/function/BiFunction;)I"⟩ : MethodName)) hown (mvT hZ (hw _ (List.mem_of_getElem? (i := 70) rfl))) (mvT hZ (hw _ (List.mem_of_getElem? (i := 71) rfl))) (mvT hZ (hw _ (List.mem_of_getElem? (i := 69) rfl))) (mvT hZ (hw _ (List.mem_of_getElem? (i := 72) rfl))) (by decide) (backOf (W := 0) (rm11_3 l Z a0 hw [] fmt h0 n0 Z0 ) hZ (hw _ (List.mem_of_getElem? (i := 72) rfl)) (hw _ (List.mem_of_getElem? (i := 69) rfl)) (by decide) (by decide)) (g := (mkF m 5 #[.val (.int (1 : Int32)), .val (.int (3 : Int32))] [(.ref fmt), (.int (3 : Int32)), (.int (1 : Int32))])) rfl (by rw [hml]; rfl) (argsL := [(.int (1 : Int32)), (.int (3 : Int32)), (.ref fmt)]) (rest := []) (lenOf pd_2 rfl) rfl (by show 2 * 0 + _ ≤ _; exact Nat.le_of_eq rfl) (hb hby d10_5) (fun _ _ => ⟨rfl, e66, (by decide : 0 + 0 ≤ _), (by decide : 0 + 0 ≤ _)⟩)
  dsimp only [Pt.U, Pt.locs, Pt.cells, Pt.slots] at X67 l67 y67 z67 st67 hQ67
  subst l67 y67 z67
  obtain ⟨rfl, Nq67, e67⟩ := hQ67
  have N67 := Fr.app N0 Nq67
  refine own_go (A := _) (B := T67.setTop (mkF m 8 #[.val (.int (1 : Int32)), .val (.int (3 : Int32))] [(.int (1 : Int32))])) st67 ?_
  refine own_go (A := T67.setTop (mkF m 8 #[.val (.int (1 : Int32)), .val (.int (3 : Int32))] [(.int (1 : Int32))])) (B := T67.setTop (mkF m 9 #[.val (.int (1 : Int32)), .val (.int (3 : Int32))] [])) (fun t k => ?_) ?_
  · show Steps p.tables e below (T67.setTop (mkF m 8 #[.val (.int (1 : Int32)), .val (.int (3 : Int32))] [(.int (1 : Int32))])) _
    refine XS.pop X67.here hx rfl (hb hby d10_8) rfl rfl ?_
    exact k
  obtain ⟨fs, hr, hrun, hended, hW, hsame⟩ := X67.leave (v := none) (fun _ => rfl)
  refine ⟨_, _, ?_, hrun, hended, _, _, rfl, ?_, ⟨_, rfl⟩, hW, hsame.mono (by decide) (by decide)⟩
  · show Steps p.tables e below (T67.setTop (mkF m 9 #[.val (.int (1 : Int32)), .val (.int (3 : Int32))] [])) _
    exact X67.returnOut hx Bd.returns (hb hby d10_9) hr
  · show Qrm10_3 Z fmt h0 n0 _ T67.heap _
    rw [e67]
    exact ⟨rfl, N67, rfl⟩
def Qrm9_3 (Z : State) (b1 : Addr) (x0 : Int32) (x1 : Int32) (x2 : Int32) (k1 : ClassId) (fmt : Addr) (h0 : Heap) (n0 : Nat) (v : Option Value) (h : Heap) (L : List Loc) : Prop := v = some (.int (nar .char ((x1 &&& (255 : Int32)).toUInt32.toUInt16.toUInt32.toInt32))) ∧ Fr n0 L ∧ h = h0
theorem efrm9_3 (m : MethodId) (x0 : Addr) : entryFrame m #[(.ref x0), (.int (1 : Int32))] 2 = mkF m 0 #[.val (.ref x0), .val (.int (1 : Int32))] [] := by first | (simp [entryFrame, mkF, argsToLocals, Value.category]; done) | rfl
set_option maxRecDepth 65536 in
set_option maxHeartbeats 40000000 in
theorem rm9_3 (l : Launch) (Z : State) (a0 : Array Value) (hw : ∀ d ∈ tables_1, d.before a0 Z = true) (ws : List Jvm.Cond) (b1 : Addr) (x0 : Int32) (x1 : Int32) (x2 : Int32) (k1 : ClassId) (fmt : Addr) (h0 : Heap) (n0 : Nat) (Z0 : n0 ≤ h0.size) (P0 : Sta Z h0 "jdk/internal/util/Preconditions" "SIOOBE_FORMATTER" "Ljava/util/function/BiFunction;" (.ref fmt)) (P1 : Arv Z h0 b1 k1 .byte (3 : Int32) [(.int x0), (.int x1), (.int x2)] (.int (0 : Int32))) :
    MetFree l (⟨"java/lang/StringLatin1", "charAt", "([BI)C"⟩ : MethodName) (head1 (Jvm.Cond.code (⟨"java/lang/StringLatin1", "charAt", "([BI)C"⟩ : MethodName) jdk_43_method_2_code 2 (some .char) :: ws) ({ frames := 2, cells := 0, slots := 0, locals := 27 } : Room)) (fun a U => a = #[(.ref b1), (.int (1 : Int32))] ∧ Z.Warmed39 U.vm ∧ U.heap = h0) (fun _ _ _ _ _ => True) (fun _ U o U' => ∃ v L, o = .returned v ∧ Qrm9_3 Z b1 x0 x1 x2 k1 fmt h0 n0 v U'.heap L ∧ FrameEnd U o U' L ({ frames := 2, cells := 0, slots := 0, locals := 27 } : Room).cells ({ frames := 2, cells := 0, slots := 0, locals := 27 } : Room).slots) := by
  refine MetFree.of_bodySF (plainFor_of_name pn_6) hisR ?_
  intro p e s m args below meth c s₁ Bd hml0 hP hK
  obtain ⟨rfl, hZ, hh⟩ := hP
  have hx := Bd.exec
  have hby := Bd.bytes
  have hml : c.maxLocals = 2 := hml0
  have hown : s.vm.findClass "java/lang/StringLatin1" = some m.cls := findClass_of_methodNamed Bd.named
  have hnm := (name_of_methodNamed Bd.named Bd.method).1
  have X0 : Stand p l e ({ frames := 2, cells := 0, slots := 0, locals := 27 } : Room) s m #[(.ref b1), (.int (1 : Int32))] below meth c s₁ [] 0 0 := Stand.of_body Bd
  have e0 : s₁.heap = h0 := by rw [← hh, Bd.state]; rfl
  have N0 := Fr.nil n0
  have K0 : Keep h0 h0 [] := Keep.refl h0 _
  refine own_go (B := s₁.setTop (mkF m 0 #[.val (.ref b1), .val (.int (1 : Int32))] [])) (fun t k => castTop (efrm9_3 m b1) k) ?_
  refine own_go (A := s₁.setTop (mkF m 0 #[.val (.ref b1), .val (.int (1 : Int32))] [])) (B := s₁.setTop (mkF m 2 #[.val (.ref b1), .val (.int (1 : Int32))] [(.ref b1), (.int (1 : Int32))])) (fun t k => ?_) ?_
  · show Steps p.tables e below (s₁.setTop (mkF m 0 #[.val (.ref b1), .val (.int (1 : Int32))] [])) _
    refine XS.iloadN X0.here hx rfl (hb hby d9_0) rfl ?_
    show Steps p.tables e below (s₁.setTop (mkF m 1 #[.val (.ref b1), .val (.int (1 : Int32))] [(.int (1 : Int32))])) _
    refine XS.aloadN X0.here hx rfl (hb hby d9_1) rfl rfl ?_
    exact k
  obtain ⟨cl68, Ar68, q68, S68, M68, Ha68, G68⟩ := id P1
  refine own_go (A := s₁.setTop (mkF m 2 #[.val (.ref b1), .val (.int (1 : Int32))] [(.ref b1), (.int (1 : Int32))])) (B := s₁.setTop (mkF m 3 #[.val (.ref b1), .val (.int (1 : Int32))] [(.int (3 : Int32)), (.int (1 : Int32))])) (fun t k => ?_) ?_
  · refine X0.arraylength hx (by rw [e0]; exact Ar68.1) (State.isArrayOf_alike hZ.alike Ar68.2.1) (g := (mkF m 2 #[.val (.ref b1), .val (.int (1 : Int32))] [(.ref b1), (.int (1 : Int32))])) rfl rfl (hb hby d9_2) _ ?_
    rw [len_of S68 M68]
    exact k
  obtain ⟨_, _, ⟨T69, L69, k69, n69⟩, -, X69, ⟨Lc69, hQ69, l69, y69, z69⟩, st69⟩ := Jvm.LawKit.callS X0 hx (y := (⟨"java/lang/String", "checkIndex", "(II)V"⟩ : MethodName)) hown (mvT hZ (hw _ (List.mem_of_getElem? (i := 65) rfl))) (mvT hZ (hw _ (List.mem_of_getElem? (i := 66) rfl))) (mvT hZ (hw _ (List.mem_of_getElem? (i := 39) rfl))) (mvT hZ (hw _ (List.mem_of_getElem? (i := 67) rfl))) (by decide) (backOf (W := 0) (rm10_3 l Z a0 hw [] fmt h0 n0 Z0 P0) hZ (hw _ (List.mem_of_getElem? (i := 67) rfl)) (hw _ (List.mem_of_getElem? (i := 39) rfl)) (by decide) (by decide)) (g := (mkF m 3 #[.val (.ref b1), .val (.int (1 : Int32))] [(.int (3 : Int32)), (.int (1 : Int32))])) rfl (by rw [hml]; rfl) (argsL := [(.int (1 : Int32)), (.int (3 : Int32))]) (rest := []) (lenOf pd_3 rfl) rfl (by show 2 * 0 + _ ≤ _; exact Nat.le_of_eq rfl) (hb hby d9_3) (fun _ _ => ⟨rfl, e0, (by decide : 0 + 0 ≤ _), (by decide : 0 + 0 ≤ _)⟩)
  dsimp only [Pt.U, Pt.locs, Pt.cells, Pt.slots] at X69 l69 y69 z69 st69 hQ69
  subst l69 y69 z69
  obtain ⟨rfl, Nq69, e69⟩ := hQ69
  have N69 := Fr.app N0 Nq69
  refine own_go (A := _) (B := T69.setTop (mkF m 6 #[.val (.ref b1), .val (.int (1 : Int32))] [])) st69 ?_
  refine own_go (A := T69.setTop (mkF m 6 #[.val (.ref b1), .val (.int (1 : Int32))] [])) (B := T69.setTop (mkF m 8 #[.val (.ref b1), .val (.int (1 : Int32))] [(.int (1 : Int32)), (.ref b1)])) (fun t k => ?_) ?_
  · show Steps p.tables e below (T69.setTop (mkF m 6 #[.val (.ref b1), .val (.int (1 : Int32))] [])) _
    refine XS.aloadN X69.here hx rfl (hb hby d9_6) rfl rfl ?_
    show Steps p.tables e below (T69.setTop (mkF m 7 #[.val (.ref b1), .val (.int (1 : Int32))] [(.ref b1)])) _
    refine XS.iloadN X69.here hx rfl (hb hby d9_7) rfl ?_
    exact k
  obtain ⟨cl70, Ar70, q70, S70, M70, Ha70, G70⟩ := id P1
  have hin70 : ¬ ((1 : Int32) < 0 ∨ cl70.slots.size ≤ ((1 : Int32)).toNatClampNeg) := inb_of S70 ⟨by decide, by decide⟩
  refine own_go (A := T69.setTop (mkF m 8 #[.val (.ref b1), .val (.int (1 : Int32))] [(.int (1 : Int32)), (.ref b1)])) (X69.baloadBytes hx (j := (1 : Int32)) (v := (.int x1)) (by rw [e69]; exact Ar70.1) (State.isArrayOf_alike hZ.alike Ar70.2.1) Ar70.2.2 hin70 (Has.at Ha70 hin70 rfl) (g := (mkF m 8 #[.val (.ref b1), .val (.int (1 : Int32))] [(.int (1 : Int32)), (.ref b1)])) rfl rfl (hb hby d9_8)) ?_
  refine own_go (A := T69.setTop (mkF m 9 #[.val (.ref b1), .val (.int (1 : Int32))] [(.int x1)])) (B := T69.setTop (mkF m 14 #[.val (.ref b1), .val (.int (1 : Int32))] [(.int ((x1 &&& (255 : Int32)).toUInt32.toUInt16.toUInt32.toInt32))])) (fun t k => ?_) ?_
  · show Steps p.tables e below (T69.setTop (mkF m 9 #[.val (.ref b1), .val (.int (1 : Int32))] [(.int x1)])) _
    refine XS.sipush X69.here hx rfl (hb hby d9_9) ?_
    show Steps p.tables e below (T69.setTop (mkF m 12 #[.val (.ref b1), .val (.int (1 : Int32))] [(.int (255 : Int32)), (.int x1)])) _
    refine XS.iand X69.here hx rfl (hb hby d9_12) rfl ?_
    show Steps p.tables e below (T69.setTop (mkF m 13 #[.val (.ref b1), .val (.int (1 : Int32))] [(.int (x1 &&& (255 : Int32)))])) _
    refine XS.i2c X69.here hx rfl (hb hby d9_13) rfl ?_
    exact k
  obtain ⟨fs, hr, hrun, hended, hW, hsame⟩ := X69.leave (v := some (.int (nar .char ((x1 &&& (255 : Int32)).toUInt32.toUInt16.toUInt32.toInt32)))) (fun h => by rw [Bd.returns] at h; cases h)
  refine ⟨_, _, ?_, hrun, hended, _, _, rfl, ?_, ⟨_, rfl⟩, hW, hsame.mono (by decide) (by decide)⟩
  · show Steps p.tables e below (T69.setTop (mkF m 14 #[.val (.ref b1), .val (.int (1 : Int32))] [(.int ((x1 &&& (255 : Int32)).toUInt32.toUInt16.toUInt32.toInt32))])) _
    exact retN X69 hx (t := .char) Bd.returns (by simp) (hb hby d9_14) hr
  · show Qrm9_3 Z b1 x0 x1 x2 k1 fmt h0 n0 _ T69.heap _
    rw [e69]
    exact ⟨rfl, N69, rfl⟩
def Qrm7_3 (Z : State) (a1 : Addr) (cs : Int32) (x0 : Int32) (x1 : Int32) (x2 : Int32) (b1 : Addr) (k1 : ClassId) (fmt : Addr) (h0 : Heap) (n0 : Nat) (v : Option Value) (h : Heap) (L : List Loc) : Prop := v = some (.int (nar .char (nar .char ((x1 &&& (255 : Int32)).toUInt32.toUInt16.toUInt32.toInt32)))) ∧ Fr n0 L ∧ h = h0
theorem efrm7_3 (m : MethodId) (x0 : Addr) : entryFrame m #[(.ref x0), (.int (1 : Int32))] 2 = mkF m 0 #[.val (.ref x0), .val (.int (1 : Int32))] [] := by first | (simp [entryFrame, mkF, argsToLocals, Value.category]; done) | rfl
set_option maxRecDepth 65536 in
set_option maxHeartbeats 40000000 in
theorem rm7_3 (l : Launch) (Z : State) (a0 : Array Value) (hw : ∀ d ∈ tables_1, d.before a0 Z = true) (ws : List Jvm.Cond) (a1 : Addr) (cs : Int32) (x0 : Int32) (x1 : Int32) (x2 : Int32) (b1 : Addr) (k1 : ClassId) (fmt : Addr) (h0 : Heap) (n0 : Nat) (Z0 : n0 ≤ h0.size) (P0 : Exa Z h0 a1 "java/lang/String") (P1 : Sta Z h0 "java/lang/String" "COMPACT_STRINGS" "Z" (.int cs)) (P2 : Sta Z h0 "jdk/internal/util/Preconditions" "SIOOBE_FORMATTER" "Ljava/util/function/BiFunction;" (.ref fmt)) (P3 : Fld Z h0 a1 "java/lang/String" "coder" "B" (.int (0 : Int32))) (P4 : Fld Z h0 a1 "java/lang/String" "value" "[B" (.ref b1)) (P5 : Arv Z h0 b1 k1 .byte (3 : Int32) [(.int x0), (.int x1), (.int x2)] (.int (0 : Int32))) (hcs : ¬ (cs = (0 : Int32))) :
    MetFree l (⟨"java/lang/String", "charAt", "(I)C"⟩ : MethodName) (head1 (Jvm.Cond.code (⟨"java/lang/String", "charAt", "(I)C"⟩ : MethodName) jdk_42_method_56_code 2 (some .char) :: ws) ({ frames := 3, cells := 0, slots := 0, locals := 40 } : Room)) (fun a U => a = #[(.ref a1), (.int (1 : Int32))] ∧ Z.Warmed39 U.vm ∧ U.heap = h0) (fun _ _ _ _ _ => True) (fun _ U o U' => ∃ v L, o = .returned v ∧ Qrm7_3 Z a1 cs x0 x1 x2 b1 k1 fmt h0 n0 v U'.heap L ∧ FrameEnd U o U' L ({ frames := 3, cells := 0, slots := 0, locals := 40 } : Room).cells ({ frames := 3, cells := 0, slots := 0, locals := 40 } : Room).slots) := by
  refine MetFree.of_bodySF (plainFor_of_name pn_3) hisR ?_
  intro p e s m args below meth c s₁ Bd hml0 hP hK
  obtain ⟨rfl, hZ, hh⟩ := hP
  have hx := Bd.exec
  have hby := Bd.bytes
  have hml : c.maxLocals = 2 := hml0
  have hown : s.vm.findClass "java/lang/String" = some m.cls := findClass_of_methodNamed Bd.named
  have hnm := (name_of_methodNamed Bd.named Bd.method).1
  have X0 : Stand p l e ({ frames := 3, cells := 0, slots := 0, locals := 40 } : Room) s m #[(.ref a1), (.int (1 : Int32))] below meth c s₁ [] 0 0 := Stand.of_body Bd
  have e0 : s₁.heap = h0 := by rw [← hh, Bd.state]; rfl
  have N0 := Fr.nil n0
  have K0 : Keep h0 h0 [] := Keep.refl h0 _
  refine own_go (B := s₁.setTop (mkF m 0 #[.val (.ref a1), .val (.int (1 : Int32))] [])) (fun t k => castTop (efrm7_3 m a1) k) ?_
  refine own_go (A := s₁.setTop (mkF m 0 #[.val (.ref a1), .val (.int (1 : Int32))] [])) (B := s₁.setTop (mkF m 1 #[.val (.ref a1), .val (.int (1 : Int32))] [(.ref a1)])) (fun t k => ?_) ?_
  · show Steps p.tables e below (s₁.setTop (mkF m 0 #[.val (.ref a1), .val (.int (1 : Int32))] [])) _
    refine XS.aloadN X0.here hx rfl (hb hby d7_0) rfl rfl ?_
    exact k
  obtain ⟨cq71, kq71, q71a, q71b, q71c⟩ := isOf hZ e0 P0
  obtain ⟨_, _, ⟨T71, L71, k71, n71⟩, -, X71, ⟨Lc71, hQ71, l71, y71, z71⟩, st71⟩ := X0.virtualBack hx (y := (⟨"java/lang/String", "isLatin1", "()Z"⟩ : MethodName)) (z := (⟨"java/lang/String", "isLatin1", "()Z"⟩ : MethodName)) hown (mvT hZ (hw _ (List.mem_of_getElem? (i := 56) rfl))) (mvT hZ (hw _ (List.mem_of_getElem? (i := 57) rfl))) (notFace_of_selects (args := #[]) (mvT hZ (hw _ (List.mem_of_getElem? (i := 59) rfl)))) (mvT hZ (hw _ (List.mem_of_getElem? (i := 59) rfl))) (mvT hZ (hw _ (List.mem_of_getElem? (i := 58) rfl))) (by decide) (backOf (W := 0) (rm8 l Z a0 hw [] a1 cs h0 n0 Z0 P1 P3 hcs) hZ (hw _ (List.mem_of_getElem? (i := 60) rfl)) (hw _ (List.mem_of_getElem? (i := 39) rfl)) (by decide) (by decide)) q71a q71c (g := (mkF m 1 #[.val (.ref a1), .val (.int (1 : Int32))] [(.ref a1)])) rfl (by rw [hml]; rfl) (Steps.refl _) (argsL := []) (rest := []) (lenOf pd_4 rfl) rfl (by show 2 * 0 + _ ≤ _; exact Nat.le_of_eq rfl) (hb hby d7_1) (fun _ _ => ⟨rfl, e0, (by decide : 0 + 0 ≤ _), (by decide : 0 + 0 ≤ _)⟩)
  dsimp only [Pt.U, Pt.locs, Pt.cells, Pt.slots] at X71 l71 y71 z71 st71 hQ71
  subst l71 y71 z71
  obtain ⟨rfl, Nq71, e71⟩ := hQ71
  have N71 := Fr.app N0 Nq71
  refine own_go (A := _) (B := T71.setTop (mkF m 4 #[.val (.ref a1), .val (.int (1 : Int32))] [(.int (1 : Int32))])) (fun t k => st71.trans k) ?_
  refine own_go (A := T71.setTop (mkF m 4 #[.val (.ref a1), .val (.int (1 : Int32))] [(.int (1 : Int32))])) (B := T71.setTop (mkF m 8 #[.val (.ref a1), .val (.int (1 : Int32))] [(.ref a1)])) (fun t k => ?_) ?_
  · show Steps p.tables e below (T71.setTop (mkF m 4 #[.val (.ref a1), .val (.int (1 : Int32))] [(.int (1 : Int32))])) _
    refine XS.ifNo X71.here hx rfl (hb hby d7_4) rfl ((if0 _ _).trans (feq (by decide : ¬ ((1 : Int32) = (0 : Int32)))).1) ?_
    show Steps p.tables e below (T71.setTop (mkF m 7 #[.val (.ref a1), .val (.int (1 : Int32))] [])) _
    refine XS.aloadN X71.here hx rfl (hb hby d7_7) rfl rfl ?_
    exact k
  obtain ⟨T73, X73, e73, st73⟩ := getF X71 hx hZ hown (host := "") (Or.inl (hw _ (List.mem_of_getElem? (i := 41) rfl))) Via.refl e71 P4 (g := (mkF m 8 #[.val (.ref a1), .val (.int (1 : Int32))] [(.ref a1)])) rfl rfl (hb hby d7_8)
  refine own_go st73 ?_
  refine own_go (A := T73.setTop (mkF m 11 #[.val (.ref a1), .val (.int (1 : Int32))] [(.ref b1)])) (B := T73.setTop (mkF m 12 #[.val (.ref a1), .val (.int (1 : Int32))] [(.int (1 : Int32)), (.ref b1)])) (fun t k => ?_) ?_
  · show Steps p.tables e below (T73.setTop (mkF m 11 #[.val (.ref a1), .val (.int (1 : Int32))] [(.ref b1)])) _
    refine XS.iloadN X73.here hx rfl (hb hby d7_11) rfl ?_
    exact k
  obtain ⟨_, _, ⟨T74, L74, k74, n74⟩, -, X74, ⟨Lc74, hQ74, l74, y74, z74⟩, st74⟩ := Jvm.LawKit.callS X73 hx (y := (⟨"java/lang/StringLatin1", "charAt", "([BI)C"⟩ : MethodName)) hown (mvT hZ (hw _ (List.mem_of_getElem? (i := 61) rfl))) (mvT hZ (hw _ (List.mem_of_getElem? (i := 62) rfl))) (mvT hZ (hw _ (List.mem_of_getElem? (i := 63) rfl))) (mvT hZ (hw _ (List.mem_of_getElem? (i := 64) rfl))) (by decide) (backOf (W := 0) (rm9_3 l Z a0 hw [] b1 x0 x1 x2 k1 fmt h0 n0 Z0 P2 P5) hZ (hw _ (List.mem_of_getElem? (i := 64) rfl)) (hw _ (List.mem_of_getElem? (i := 63) rfl)) (by decide) (by decide)) (g := (mkF m 12 #[.val (.ref a1), .val (.int (1 : Int32))] [(.int (1 : Int32)), (.ref b1)])) rfl (by rw [hml]; rfl) (argsL := [(.ref b1), (.int (1 : Int32))]) (rest := []) (lenOf pd_5 rfl) rfl (by show 2 * 0 + _ ≤ _; exact Nat.le_of_eq rfl) (hb hby d7_12) (fun _ _ => ⟨rfl, e73, (by decide : 0 + 0 ≤ _), (by decide : 0 + 0 ≤ _)⟩)
  dsimp only [Pt.U, Pt.locs, Pt.cells, Pt.slots] at X74 l74 y74 z74 st74 hQ74
  subst l74 y74 z74
  obtain ⟨rfl, Nq74, e74⟩ := hQ74
  have N74 := Fr.app N71 Nq74
  refine own_go (A := _) (B := T74.setTop (mkF m 15 #[.val (.ref a1), .val (.int (1 : Int32))] [(.int (nar .char ((x1 &&& (255 : Int32)).toUInt32.toUInt16.toUInt32.toInt32)))])) st74 ?_
  obtain ⟨fs, hr, hrun, hended, hW, hsame⟩ := X74.leave (v := some (.int (nar .char (nar .char ((x1 &&& (255 : Int32)).toUInt32.toUInt16.toUInt32.toInt32))))) (fun h => by rw [Bd.returns] at h; cases h)
  refine ⟨_, _, ?_, hrun, hended, _, _, rfl, ?_, ⟨_, rfl⟩, hW, hsame.mono (by decide) (by decide)⟩
  · show Steps p.tables e below (T74.setTop (mkF m 15 #[.val (.ref a1), .val (.int (1 : Int32))] [(.int (nar .char ((x1 &&& (255 : Int32)).toUInt32.toUInt16.toUInt32.toInt32)))])) _
    exact retN X74 hx (t := .char) Bd.returns (by simp) (hb hby d7_15) hr
  · show Qrm7_3 Z a1 cs x0 x1 x2 b1 k1 fmt h0 n0 _ T74.heap _
    rw [e74]
    exact ⟨rfl, N74, rfl⟩
def Qrm5_4 (Z : State) (a1 : Addr) (cs : Int32) (x0 : Int32) (x1 : Int32) (x2 : Int32) (x3 : Int32) (b1 : Addr) (k1 : ClassId) (h0 : Heap) (n0 : Nat) (v : Option Value) (h : Heap) (L : List Loc) : Prop := v = some (.int (4 : Int32)) ∧ Fr n0 L ∧ h = h0
theorem efrm5_4 (m : MethodId) (x0 : Addr) : entryFrame m #[(.ref x0)] 1 = mkF m 0 #[.val (.ref x0)] [] := by first | (simp [entryFrame, mkF, argsToLocals, Value.category]; done) | rfl
set_option maxRecDepth 65536 in
set_option maxHeartbeats 40000000 in
theorem rm5_4 (l : Launch) (Z : State) (a0 : Array Value) (hw : ∀ d ∈ tables_1, d.before a0 Z = true) (ws : List Jvm.Cond) (a1 : Addr) (cs : Int32) (x0 : Int32) (x1 : Int32) (x2 : Int32) (x3 : Int32) (b1 : Addr) (k1 : ClassId) (h0 : Heap) (n0 : Nat) (Z0 : n0 ≤ h0.size) (P0 : Exa Z h0 a1 "java/lang/String") (P1 : Sta Z h0 "java/lang/String" "COMPACT_STRINGS" "Z" (.int cs)) (P2 : Fld Z h0 a1 "java/lang/String" "coder" "B" (.int (0 : Int32))) (P3 : Fld Z h0 a1 "java/lang/String" "value" "[B" (.ref b1)) (P4 : Arv Z h0 b1 k1 .byte (4 : Int32) [(.int x0), (.int x1), (.int x2), (.int x3)] (.int (0 : Int32))) (hcs : ¬ (cs = (0 : Int32))) :
    MetFree l (⟨"java/lang/String", "length", "()I"⟩ : MethodName) (head1 (Jvm.Cond.code (⟨"java/lang/String", "length", "()I"⟩ : MethodName) jdk_42_method_54_code 1 (some .int) :: ws) ({ frames := 1, cells := 0, slots := 0, locals := 13 } : Room)) (fun a U => a = #[(.ref a1)] ∧ Z.Warmed39 U.vm ∧ U.heap = h0) (fun _ _ _ _ _ => True) (fun _ U o U' => ∃ v L, o = .returned v ∧ Qrm5_4 Z a1 cs x0 x1 x2 x3 b1 k1 h0 n0 v U'.heap L ∧ FrameEnd U o U' L ({ frames := 1, cells := 0, slots := 0, locals := 13 } : Room).cells ({ frames := 1, cells := 0, slots := 0, locals := 13 } : Room).slots) := by
  refine MetFree.of_bodySF (plainFor_of_name pn_3) hisR ?_
  intro p e s m args below meth c s₁ Bd hml0 hP hK
  obtain ⟨rfl, hZ, hh⟩ := hP
  have hx := Bd.exec
  have hby := Bd.bytes
  have hml : c.maxLocals = 1 := hml0
  have hown : s.vm.findClass "java/lang/String" = some m.cls := findClass_of_methodNamed Bd.named
  have hnm := (name_of_methodNamed Bd.named Bd.method).1
  have X0 : Stand p l e ({ frames := 1, cells := 0, slots := 0, locals := 13 } : Room) s m #[(.ref a1)] below meth c s₁ [] 0 0 := Stand.of_body Bd
  have e0 : s₁.heap = h0 := by rw [← hh, Bd.state]; rfl
  have N0 := Fr.nil n0
  have K0 : Keep h0 h0 [] := Keep.refl h0 _
  refine own_go (B := s₁.setTop (mkF m 0 #[.val (.ref a1)] [])) (fun t k => castTop (efrm5_4 m a1) k) ?_
  refine own_go (A := s₁.setTop (mkF m 0 #[.val (.ref a1)] [])) (B := s₁.setTop (mkF m 1 #[.val (.ref a1)] [(.ref a1)])) (fun t k => ?_) ?_
  · show Steps p.tables e below (s₁.setTop (mkF m 0 #[.val (.ref a1)] [])) _
    refine XS.aloadN X0.here hx rfl (hb hby d5_0) rfl rfl ?_
    exact k
  obtain ⟨T75, X75, e75, st75⟩ := getF X0 hx hZ hown (host := "") (Or.inl (hw _ (List.mem_of_getElem? (i := 41) rfl))) Via.refl e0 P3 (g := (mkF m 1 #[.val (.ref a1)] [(.ref a1)])) rfl rfl (hb hby d5_1)
  refine own_go st75 ?_
  obtain ⟨cl76, Ar76, q76, S76, M76, Ha76, G76⟩ := id P4
  refine own_go (A := T75.setTop (mkF m 4 #[.val (.ref a1)] [(.ref b1)])) (B := T75.setTop (mkF m 5 #[.val (.ref a1)] [(.int (4 : Int32))])) (fun t k => ?_) ?_
  · refine X75.arraylength hx (by rw [e75]; exact Ar76.1) (State.isArrayOf_alike hZ.alike Ar76.2.1) (g := (mkF m 4 #[.val (.ref a1)] [(.ref b1)])) rfl rfl (hb hby d5_4) _ ?_
    rw [len_of S76 M76]
    exact k
  refine own_go (A := T75.setTop (mkF m 5 #[.val (.ref a1)] [(.int (4 : Int32))])) (B := T75.setTop (mkF m 6 #[.val (.ref a1)] [(.ref a1), (.int (4 : Int32))])) (fun t k => ?_) ?_
  · show Steps p.tables e below (T75.setTop (mkF m 5 #[.val (.ref a1)] [(.int (4 : Int32))])) _
    refine XS.aloadN X75.here hx rfl (hb hby d5_5) rfl rfl ?_
    exact k
  obtain ⟨cq77, kq77, q77a, q77b, q77c⟩ := isOf hZ e75 P0
  obtain ⟨_, _, ⟨T77, L77, k77, n77⟩, -, X77, ⟨Lc77, hQ77, l77, y77, z77⟩, st77⟩ := X75.virtualBack hx (y := (⟨"java/lang/String", "coder", "()B"⟩ : MethodName)) (z := (⟨"java/lang/String", "coder", "()B"⟩ : MethodName)) hown (mvT hZ (hw _ (List.mem_of_getElem? (i := 43) rfl))) (mvT hZ (hw _ (List.mem_of_getElem? (i := 44) rfl))) (notFace_of_selects (args := #[]) (mvT hZ (hw _ (List.mem_of_getElem? (i := 46) rfl)))) (mvT hZ (hw _ (List.mem_of_getElem? (i := 46) rfl))) (mvT hZ (hw _ (List.mem_of_getElem? (i := 45) rfl))) (by decide) (backOf (W := 1) (rm6 l Z a0 hw [] a1 cs h0 n0 Z0 P1 P2 hcs) hZ (hw _ (List.mem_of_getElem? (i := 47) rfl)) (hw _ (List.mem_of_getElem? (i := 39) rfl)) (by decide) (by decide)) q77a q77c (g := (mkF m 6 #[.val (.ref a1)] [(.ref a1), (.int (4 : Int32))])) rfl (by rw [hml]; rfl) (Steps.refl _) (argsL := []) (rest := [(.int (4 : Int32))]) (lenOf pd_1 rfl) rfl (by show 2 * 0 + _ ≤ _; exact Nat.le_of_eq rfl) (hb hby d5_6) (fun _ _ => ⟨rfl, e75, (by decide : 0 + 0 ≤ _), (by decide : 0 + 0 ≤ _)⟩)
  dsimp only [Pt.U, Pt.locs, Pt.cells, Pt.slots] at X77 l77 y77 z77 st77 hQ77
  subst l77 y77 z77
  obtain ⟨rfl, Nq77, e77⟩ := hQ77
  have N77 := Fr.app N0 Nq77
  refine own_go (A := _) (B := T77.setTop (mkF m 9 #[.val (.ref a1)] [(.int (0 : Int32)), (.int (4 : Int32))])) (fun t k => st77.trans k) ?_
  refine own_go (A := T77.setTop (mkF m 9 #[.val (.ref a1)] [(.int (0 : Int32)), (.int (4 : Int32))])) (B := T77.setTop (mkF m 10 #[.val (.ref a1)] [(.int (4 : Int32))])) (fun t k => ?_) ?_
  · show Steps p.tables e below (T77.setTop (mkF m 9 #[.val (.ref a1)] [(.int (0 : Int32)), (.int (4 : Int32))])) _
    refine XS.ishr X77.here hx rfl (hb hby d5_9) rfl ?_
    exact k
  obtain ⟨fs, hr, hrun, hended, hW, hsame⟩ := X77.leave (v := some (.int (4 : Int32))) (fun h => by rw [Bd.returns] at h; cases h)
  refine ⟨_, _, ?_, hrun, hended, _, _, rfl, ?_, ⟨_, rfl⟩, hW, hsame.mono (by decide) (by decide)⟩
  · show Steps p.tables e below (T77.setTop (mkF m 10 #[.val (.ref a1)] [(.int (4 : Int32))])) _
    exact retOut X77 hx Bd.returns rfl (Or.inl ⟨rfl, Or.inl rfl, _, rfl⟩) (hb hby d5_10) hr
  · show Qrm5_4 Z a1 cs x0 x1 x2 x3 b1 k1 h0 n0 _ T77.heap _
    rw [e77]
    exact ⟨rfl, N77, rfl⟩
def Qrm11_4 (Z : State) (fmt : Addr) (h0 : Heap) (n0 : Nat) (v : Option Value) (h : Heap) (L : List Loc) : Prop := v = some (.int (1 : Int32)) ∧ Fr n0 L ∧ h = h0
theorem efrm11_4 (m : MethodId) (x2 : Addr) : entryFrame m #[(.int (1 : Int32)), (.int (4 : Int32)), (.ref x2)] 3 = mkF m 0 #[.val (.int (1 : Int32)), .val (.int (4 : Int32)), .val (.ref x2)] [] := by first | (simp [entryFrame, mkF, argsToLocals, Value.category]; done) | rfl
set_option maxRecDepth 65536 in
set_option maxHeartbeats 40000000 in
theorem rm11_4 (l : Launch) (Z : State) (a0 : Array Value) (hw : ∀ d ∈ tables_1, d.before a0 Z = true) (ws : List Jvm.Cond) (fmt : Addr) (h0 : Heap) (n0 : Nat) (Z0 : n0 ≤ h0.size)  :
    MetFree l (⟨"jdk/internal/util/Preconditions", "checkIndex", "(IILjava/util/function/BiFunction;)I"⟩ : MethodName) (head1 (Jvm.Cond.code (⟨"jdk/internal/util/Preconditions", "checkIndex", "(IILjava/util/function/BiFunction;)I"⟩ : MethodName) jdk_41_method_11_code 3 (some .int) :: ws) ({ frames := 0, cells := 0, slots := 0, locals := 0 } : Room)) (fun a U => a = #[(.int (1 : Int32)), (.int (4 : Int32)), (.ref fmt)] ∧ Z.Warmed39 U.vm ∧ U.heap = h0) (fun _ _ _ _ _ => True) (fun _ U o U' => ∃ v L, o = .returned v ∧ Qrm11_4 Z fmt h0 n0 v U'.heap L ∧ FrameEnd U o U' L ({ frames := 0, cells := 0, slots := 0, locals := 0 } : Room).cells ({ frames := 0, cells := 0, slots := 0, locals := 0 } : Room).slots) := by
  refine MetFree.of_bodySF (plainFor_of_name pn_5) hisR ?_
  intro p e s m args below meth c s₁ Bd hml0 hP hK
  obtain ⟨rfl, hZ, hh⟩ := hP
  have hx := Bd.exec
  have hby := Bd.bytes
  have hml : c.maxLocals = 3 := hml0
  have hown : s.vm.findClass "jdk/internal/util/Preconditions" = some m.cls := findClass_of_methodNamed Bd.named
  have hnm := (name_of_methodNamed Bd.named Bd.method).1
  have X0 : Stand p l e ({ frames := 0, cells := 0, slots := 0, locals := 0 } : Room) s m #[(.int (1 : Int32)), (.int (4 : Int32)), (.ref fmt)] below meth c s₁ [] 0 0 := Stand.of_body Bd
  have e0 : s₁.heap = h0 := by rw [← hh, Bd.state]; rfl
  have N0 := Fr.nil n0
  have K0 : Keep h0 h0 [] := Keep.refl h0 _
  refine own_go (B := s₁.setTop (mkF m 0 #[.val (.int (1 : Int32)), .val (.int (4 : Int32)), .val (.ref fmt)] [])) (fun t k => castTop (efrm11_4 m fmt) k) ?_
  refine own_go (A := s₁.setTop (mkF m 0 #[.val (.int (1 : Int32)), .val (.int (4 : Int32)), .val (.ref fmt)] [])) (B := s₁.setTop (mkF m 17 #[.val (.int (1 : Int32)), .val (.int (4 : Int32)), .val (.ref fmt)] [(.int (1 : Int32))])) (fun t k => ?_) ?_
  · show Steps p.tables e below (s₁.setTop (mkF m 0 #[.val (.int (1 : Int32)), .val (.int (4 : Int32)), .val (.ref fmt)] [])) _
    refine XS.iloadN X0.here hx rfl (hb hby d11_0) rfl ?_
    show Steps p.tables e below (s₁.setTop (mkF m 1 #[.val (.int (1 : Int32)), .val (.int (4 : Int32)), .val (.ref fmt)] [(.int (1 : Int32))])) _
    refine XS.ifNo X0.here hx rfl (hb hby d11_1) rfl ((if0 _ _).trans (flt (by decide : ¬ ((1 : Int32) < (0 : Int32)))).1) ?_
    show Steps p.tables e below (s₁.setTop (mkF m 4 #[.val (.int (1 : Int32)), .val (.int (4 : Int32)), .val (.ref fmt)] [])) _
    refine XS.iloadN X0.here hx rfl (hb hby d11_4) rfl ?_
    show Steps p.tables e below (s₁.setTop (mkF m 5 #[.val (.int (1 : Int32)), .val (.int (4 : Int32)), .val (.ref fmt)] [(.int (1 : Int32))])) _
    refine XS.iloadN X0.here hx rfl (hb hby d11_5) rfl ?_
    show Steps p.tables e below (s₁.setTop (mkF m 6 #[.val (.int (1 : Int32)), .val (.int (4 : Int32)), .val (.ref fmt)] [(.int (4 : Int32)), (.int (1 : Int32))])) _
    refine XS.icmpYes X0.here hx rfl (pc0 := 6) (pc' := 16) rfl (hb hby d11_6) rfl (tlt (by decide : ((1 : Int32) < (4 : Int32)))).1 (by decide) (by decide) ?_
    show Steps p.tables e below (s₁.setTop (mkF m 16 #[.val (.int (1 : Int32)), .val (.int (4 : Int32)), .val (.ref fmt)] [])) _
    refine XS.iloadN X0.here hx rfl (hb hby d11_16) rfl ?_
    exact k
  obtain ⟨fs, hr, hrun, hended, hW, hsame⟩ := X0.leave (v := some (.int (1 : Int32))) (fun h => by rw [Bd.returns] at h; cases h)
  refine ⟨_, _, ?_, hrun, hended, _, _, rfl, ?_, ⟨_, rfl⟩, hW, hsame.mono (by decide) (by decide)⟩
  · show Steps p.tables e below (s₁.setTop (mkF m 17 #[.val (.int (1 : Int32)), .val (.int (4 : Int32)), .val (.ref fmt)] [(.int (1 : Int32))])) _
    exact retOut X0 hx Bd.returns rfl (Or.inl ⟨rfl, Or.inl rfl, _, rfl⟩) (hb hby d11_17) hr
  · show Qrm11_4 Z fmt h0 n0 _ s₁.heap _
    rw [e0]
    exact ⟨rfl, N0, rfl⟩
def Qrm10_4 (Z : State) (fmt : Addr) (h0 : Heap) (n0 : Nat) (v : Option Value) (h : Heap) (L : List Loc) : Prop := v = none ∧ Fr n0 L ∧ h = h0
theorem efrm10_4 (m : MethodId)  : entryFrame m #[(.int (1 : Int32)), (.int (4 : Int32))] 2 = mkF m 0 #[.val (.int (1 : Int32)), .val (.int (4 : Int32))] [] := by first | (simp [entryFrame, mkF, argsToLocals, Value.category]; done) | rfl
set_option maxRecDepth 65536 in
set_option maxHeartbeats 40000000 in
theorem rm10_4 (l : Launch) (Z : State) (a0 : Array Value) (hw : ∀ d ∈ tables_1, d.before a0 Z = true) (ws : List Jvm.Cond) (fmt : Addr) (h0 : Heap) (n0 : Nat) (Z0 : n0 ≤ h0.size) (P0 : Sta Z h0 "jdk/internal/util/Preconditions" "SIOOBE_FORMATTER" "Ljava/util/function/BiFunction;" (.ref fmt)) :
    MetFree l (⟨"java/lang/String", "checkIndex", "(II)V"⟩ : MethodName) (head1 (Jvm.Cond.code (⟨"java/lang/String", "checkIndex", "(II)V"⟩ : MethodName) jdk_42_method_155_code 2 none :: ws) ({ frames := 1, cells := 0, slots := 0, locals := 14 } : Room)) (fun a U => a = #[(.int (1 : Int32)), (.int (4 : Int32))] ∧ Z.Warmed39 U.vm ∧ U.heap = h0) (fun _ _ _ _ _ => True) (fun _ U o U' => ∃ v L, o = .returned v ∧ Qrm10_4 Z fmt h0 n0 v U'.heap L ∧ FrameEnd U o U' L ({ frames := 1, cells := 0, slots := 0, locals := 14 } : Room).cells ({ frames := 1, cells := 0, slots := 0, locals := 14 } : Room).slots) := by
  refine MetFree.of_bodySF (plainFor_of_name pn_3) hisR ?_
  intro p e s m args below meth c s₁ Bd hml0 hP hK
  obtain ⟨rfl, hZ, hh⟩ := hP
  have hx := Bd.exec
  have hby := Bd.bytes
  have hml : c.maxLocals = 2 := hml0
  have hown : s.vm.findClass "java/lang/String" = some m.cls := findClass_of_methodNamed Bd.named
  have hnm := (name_of_methodNamed Bd.named Bd.method).1
  have X0 : Stand p l e ({ frames := 1, cells := 0, slots := 0, locals := 14 } : Room) s m #[(.int (1 : Int32)), (.int (4 : Int32))] below meth c s₁ [] 0 0 := Stand.of_body Bd
  have e0 : s₁.heap = h0 := by rw [← hh, Bd.state]; rfl
  have N0 := Fr.nil n0
  have K0 : Keep h0 h0 [] := Keep.refl h0 _
  refine own_go (B := s₁.setTop (mkF m 0 #[.val (.int (1 : Int32)), .val (.int (4 : Int32))] [])) (fun t k => castTop (efrm10_4 m ) k) ?_
  refine own_go (A := s₁.setTop (mkF m 0 #[.val (.int (1 : Int32)), .val (.int (4 : Int32))] [])) (B := s₁.setTop (mkF m 2 #[.val (.int (1 : Int32)), .val (.int (4 : Int32))] [(.int (4 : Int32)), (.int (1 : Int32))])) (fun t k => ?_) ?_
  · show Steps p.tables e below (s₁.setTop (mkF m 0 #[.val (.int (1 : Int32)), .val (.int (4 : Int32))] [])) _
    refine XS.iloadN X0.here hx rfl (hb hby d10_0) rfl ?_
    show Steps p.tables e below (s₁.setTop (mkF m 1 #[.val (.int (1 : Int32)), .val (.int (4 : Int32))] [(.int (1 : Int32))])) _
    refine XS.iloadN X0.here hx rfl (hb hby d10_1) rfl ?_
    exact k
  obtain ⟨T80, X80, e80, st80⟩ := getS2 X0 hx hZ hown (host := "") (Or.inl (hw _ (List.mem_of_getElem? (i := 68) rfl))) Via.refl e0 P0 (g := (mkF m 2 #[.val (.int (1 : Int32)), .val (.int (4 : Int32))] [(.int (4 : Int32)), (.int (1 : Int32))])) rfl (hb hby d10_2)
  refine own_go st80 ?_
  obtain ⟨_, _, ⟨T81, L81, k81, n81⟩, -, X81, ⟨Lc81, hQ81, l81, y81, z81⟩, st81⟩ := Jvm.LawKit.callS X80 hx (y := (⟨"jdk/internal/util/Preconditions", "checkIndex", "(IILjava/util/function/BiFunction;)I"⟩ : MethodName)) hown (mvT hZ (hw _ (List.mem_of_getElem? (i := 70) rfl))) (mvT hZ (hw _ (List.mem_of_getElem? (i := 71) rfl))) (mvT hZ (hw _ (List.mem_of_getElem? (i := 69) rfl))) (mvT hZ (hw _ (List.mem_of_getElem? (i := 72) rfl))) (by decide) (backOf (W := 0) (rm11_4 l Z a0 hw [] fmt h0 n0 Z0 ) hZ (hw _ (List.mem_of_getElem? (i := 72) rfl)) (hw _ (List.mem_of_getElem? (i := 69) rfl)) (by decide) (by decide)) (g := (mkF m 5 #[.val (.int (1 : Int32)), .val (.int (4 : Int32))] [(.ref fmt), (.int (4 : Int32)), (.int (1 : Int32))])) rfl (by rw [hml]; rfl) (argsL := [(.int (1 : Int32)), (.int (4 : Int32)), (.ref fmt)]) (rest := []) (lenOf pd_2 rfl) rfl (by show 2 * 0 + _ ≤ _; exact Nat.le_of_eq rfl) (hb hby d10_5) (fun _ _ => ⟨rfl, e80, (by decide : 0 + 0 ≤ _), (by decide : 0 + 0 ≤ _)⟩)
  dsimp only [Pt.U, Pt.locs, Pt.cells, Pt.slots] at X81 l81 y81 z81 st81 hQ81
  subst l81 y81 z81
  obtain ⟨rfl, Nq81, e81⟩ := hQ81
  have N81 := Fr.app N0 Nq81
  refine own_go (A := _) (B := T81.setTop (mkF m 8 #[.val (.int (1 : Int32)), .val (.int (4 : Int32))] [(.int (1 : Int32))])) st81 ?_
  refine own_go (A := T81.setTop (mkF m 8 #[.val (.int (1 : Int32)), .val (.int (4 : Int32))] [(.int (1 : Int32))])) (B := T81.setTop (mkF m 9 #[.val (.int (1 : Int32)), .val (.int (4 : Int32))] [])) (fun t k => ?_) ?_
  · show Steps p.tables e below (T81.setTop (mkF m 8 #[.val (.int (1 : Int32)), .val (.int (4 : Int32))] [(.int (1 : Int32))])) _
    refine XS.pop X81.here hx rfl (hb hby d10_8) rfl rfl ?_
    exact k
  obtain ⟨fs, hr, hrun, hended, hW, hsame⟩ := X81.leave (v := none) (fun _ => rfl)
  refine ⟨_, _, ?_, hrun, hended, _, _, rfl, ?_, ⟨_, rfl⟩, hW, hsame.mono (by decide) (by decide)⟩
  · show Steps p.tables e below (T81.setTop (mkF m 9 #[.val (.int (1 : Int32)), .val (.int (4 : Int32))] [])) _
    exact X81.returnOut hx Bd.returns (hb hby d10_9) hr
  · show Qrm10_4 Z fmt h0 n0 _ T81.heap _
    rw [e81]
    exact ⟨rfl, N81, rfl⟩
def Qrm9_4 (Z : State) (b1 : Addr) (x0 : Int32) (x1 : Int32) (x2 : Int32) (x3 : Int32) (k1 : ClassId) (fmt : Addr) (h0 : Heap) (n0 : Nat) (v : Option Value) (h : Heap) (L : List Loc) : Prop := v = some (.int (nar .char ((x1 &&& (255 : Int32)).toUInt32.toUInt16.toUInt32.toInt32))) ∧ Fr n0 L ∧ h = h0
theorem efrm9_4 (m : MethodId) (x0 : Addr) : entryFrame m #[(.ref x0), (.int (1 : Int32))] 2 = mkF m 0 #[.val (.ref x0), .val (.int (1 : Int32))] [] := by first | (simp [entryFrame, mkF, argsToLocals, Value.category]; done) | rfl
set_option maxRecDepth 65536 in
set_option maxHeartbeats 40000000 in
theorem rm9_4 (l : Launch) (Z : State) (a0 : Array Value) (hw : ∀ d ∈ tables_1, d.before a0 Z = true) (ws : List Jvm.Cond) (b1 : Addr) (x0 : Int32) (x1 : Int32) (x2 : Int32) (x3 : Int32) (k1 : ClassId) (fmt : Addr) (h0 : Heap) (n0 : Nat) (Z0 : n0 ≤ h0.size) (P0 : Sta Z h0 "jdk/internal/util/Preconditions" "SIOOBE_FORMATTER" "Ljava/util/function/BiFunction;" (.ref fmt)) (P1 : Arv Z h0 b1 k1 .byte (4 : Int32) [(.int x0), (.int x1), (.int x2), (.int x3)] (.int (0 : Int32))) :
    MetFree l (⟨"java/lang/StringLatin1", "charAt", "([BI)C"⟩ : MethodName) (head1 (Jvm.Cond.code (⟨"java/lang/StringLatin1", "charAt", "([BI)C"⟩ : MethodName) jdk_43_method_2_code 2 (some .char) :: ws) ({ frames := 2, cells := 0, slots := 0, locals := 27 } : Room)) (fun a U => a = #[(.ref b1), (.int (1 : Int32))] ∧ Z.Warmed39 U.vm ∧ U.heap = h0) (fun _ _ _ _ _ => True) (fun _ U o U' => ∃ v L, o = .returned v ∧ Qrm9_4 Z b1 x0 x1 x2 x3 k1 fmt h0 n0 v U'.heap L ∧ FrameEnd U o U' L ({ frames := 2, cells := 0, slots := 0, locals := 27 } : Room).cells ({ frames := 2, cells := 0, slots := 0, locals := 27 } : Room).slots) := by
  refine MetFree.of_bodySF (plainFor_of_name pn_6) hisR ?_
  intro p e s m args below meth c s₁ Bd hml0 hP hK
  obtain ⟨rfl, hZ, hh⟩ := hP
  have hx := Bd.exec
  have hby := Bd.bytes
  have hml : c.maxLocals = 2 := hml0
  have hown : s.vm.findClass "java/lang/StringLatin1" = some m.cls := findClass_of_methodNamed Bd.named
  have hnm := (name_of_methodNamed Bd.named Bd.method).1
  have X0 : Stand p l e ({ frames := 2, cells := 0, slots := 0, locals := 27 } : Room) s m #[(.ref b1), (.int (1 : Int32))] below meth c s₁ [] 0 0 := Stand.of_body Bd
  have e0 : s₁.heap = h0 := by rw [← hh, Bd.state]; rfl
  have N0 := Fr.nil n0
  have K0 : Keep h0 h0 [] := Keep.refl h0 _
  refine own_go (B := s₁.setTop (mkF m 0 #[.val (.ref b1), .val (.int (1 : Int32))] [])) (fun t k => castTop (efrm9_4 m b1) k) ?_
  refine own_go (A := s₁.setTop (mkF m 0 #[.val (.ref b1), .val (.int (1 : Int32))] [])) (B := s₁.setTop (mkF m 2 #[.val (.ref b1), .val (.int (1 : Int32))] [(.ref b1), (.int (1 : Int32))])) (fun t k => ?_) ?_
  · show Steps p.tables e below (s₁.setTop (mkF m 0 #[.val (.ref b1), .val (.int (1 : Int32))] [])) _
    refine XS.iloadN X0.here hx rfl (hb hby d9_0) rfl ?_
    show Steps p.tables e below (s₁.setTop (mkF m 1 #[.val (.ref b1), .val (.int (1 : Int32))] [(.int (1 : Int32))])) _
    refine XS.aloadN X0.here hx rfl (hb hby d9_1) rfl rfl ?_
    exact k
  obtain ⟨cl82, Ar82, q82, S82, M82, Ha82, G82⟩ := id P1
  refine own_go (A := s₁.setTop (mkF m 2 #[.val (.ref b1), .val (.int (1 : Int32))] [(.ref b1), (.int (1 : Int32))])) (B := s₁.setTop (mkF m 3 #[.val (.ref b1), .val (.int (1 : Int32))] [(.int (4 : Int32)), (.int (1 : Int32))])) (fun t k => ?_) ?_
  · refine X0.arraylength hx (by rw [e0]; exact Ar82.1) (State.isArrayOf_alike hZ.alike Ar82.2.1) (g := (mkF m 2 #[.val (.ref b1), .val (.int (1 : Int32))] [(.ref b1), (.int (1 : Int32))])) rfl rfl (hb hby d9_2) _ ?_
    rw [len_of S82 M82]
    exact k
  obtain ⟨_, _, ⟨T83, L83, k83, n83⟩, -, X83, ⟨Lc83, hQ83, l83, y83, z83⟩, st83⟩ := Jvm.LawKit.callS X0 hx (y := (⟨"java/lang/String", "checkIndex", "(II)V"⟩ : MethodName)) hown (mvT hZ (hw _ (List.mem_of_getElem? (i := 65) rfl))) (mvT hZ (hw _ (List.mem_of_getElem? (i := 66) rfl))) (mvT hZ (hw _ (List.mem_of_getElem? (i := 39) rfl))) (mvT hZ (hw _ (List.mem_of_getElem? (i := 67) rfl))) (by decide) (backOf (W := 0) (rm10_4 l Z a0 hw [] fmt h0 n0 Z0 P0) hZ (hw _ (List.mem_of_getElem? (i := 67) rfl)) (hw _ (List.mem_of_getElem? (i := 39) rfl)) (by decide) (by decide)) (g := (mkF m 3 #[.val (.ref b1), .val (.int (1 : Int32))] [(.int (4 : Int32)), (.int (1 : Int32))])) rfl (by rw [hml]; rfl) (argsL := [(.int (1 : Int32)), (.int (4 : Int32))]) (rest := []) (lenOf pd_3 rfl) rfl (by show 2 * 0 + _ ≤ _; exact Nat.le_of_eq rfl) (hb hby d9_3) (fun _ _ => ⟨rfl, e0, (by decide : 0 + 0 ≤ _), (by decide : 0 + 0 ≤ _)⟩)
  dsimp only [Pt.U, Pt.locs, Pt.cells, Pt.slots] at X83 l83 y83 z83 st83 hQ83
  subst l83 y83 z83
  obtain ⟨rfl, Nq83, e83⟩ := hQ83
  have N83 := Fr.app N0 Nq83
  refine own_go (A := _) (B := T83.setTop (mkF m 6 #[.val (.ref b1), .val (.int (1 : Int32))] [])) st83 ?_
  refine own_go (A := T83.setTop (mkF m 6 #[.val (.ref b1), .val (.int (1 : Int32))] [])) (B := T83.setTop (mkF m 8 #[.val (.ref b1), .val (.int (1 : Int32))] [(.int (1 : Int32)), (.ref b1)])) (fun t k => ?_) ?_
  · show Steps p.tables e below (T83.setTop (mkF m 6 #[.val (.ref b1), .val (.int (1 : Int32))] [])) _
    refine XS.aloadN X83.here hx rfl (hb hby d9_6) rfl rfl ?_
    show Steps p.tables e below (T83.setTop (mkF m 7 #[.val (.ref b1), .val (.int (1 : Int32))] [(.ref b1)])) _
    refine XS.iloadN X83.here hx rfl (hb hby d9_7) rfl ?_
    exact k
  obtain ⟨cl84, Ar84, q84, S84, M84, Ha84, G84⟩ := id P1
  have hin84 : ¬ ((1 : Int32) < 0 ∨ cl84.slots.size ≤ ((1 : Int32)).toNatClampNeg) := inb_of S84 ⟨by decide, by decide⟩
  refine own_go (A := T83.setTop (mkF m 8 #[.val (.ref b1), .val (.int (1 : Int32))] [(.int (1 : Int32)), (.ref b1)])) (X83.baloadBytes hx (j := (1 : Int32)) (v := (.int x1)) (by rw [e83]; exact Ar84.1) (State.isArrayOf_alike hZ.alike Ar84.2.1) Ar84.2.2 hin84 (Has.at Ha84 hin84 rfl) (g := (mkF m 8 #[.val (.ref b1), .val (.int (1 : Int32))] [(.int (1 : Int32)), (.ref b1)])) rfl rfl (hb hby d9_8)) ?_
  refine own_go (A := T83.setTop (mkF m 9 #[.val (.ref b1), .val (.int (1 : Int32))] [(.int x1)])) (B := T83.setTop (mkF m 14 #[.val (.ref b1), .val (.int (1 : Int32))] [(.int ((x1 &&& (255 : Int32)).toUInt32.toUInt16.toUInt32.toInt32))])) (fun t k => ?_) ?_
  · show Steps p.tables e below (T83.setTop (mkF m 9 #[.val (.ref b1), .val (.int (1 : Int32))] [(.int x1)])) _
    refine XS.sipush X83.here hx rfl (hb hby d9_9) ?_
    show Steps p.tables e below (T83.setTop (mkF m 12 #[.val (.ref b1), .val (.int (1 : Int32))] [(.int (255 : Int32)), (.int x1)])) _
    refine XS.iand X83.here hx rfl (hb hby d9_12) rfl ?_
    show Steps p.tables e below (T83.setTop (mkF m 13 #[.val (.ref b1), .val (.int (1 : Int32))] [(.int (x1 &&& (255 : Int32)))])) _
    refine XS.i2c X83.here hx rfl (hb hby d9_13) rfl ?_
    exact k
  obtain ⟨fs, hr, hrun, hended, hW, hsame⟩ := X83.leave (v := some (.int (nar .char ((x1 &&& (255 : Int32)).toUInt32.toUInt16.toUInt32.toInt32)))) (fun h => by rw [Bd.returns] at h; cases h)
  refine ⟨_, _, ?_, hrun, hended, _, _, rfl, ?_, ⟨_, rfl⟩, hW, hsame.mono (by decide) (by decide)⟩
  · show Steps p.tables e below (T83.setTop (mkF m 14 #[.val (.ref b1), .val (.int (1 : Int32))] [(.int ((x1 &&& (255 : Int32)).toUInt32.toUInt16.toUInt32.toInt32))])) _
    exact retN X83 hx (t := .char) Bd.returns (by simp) (hb hby d9_14) hr
  · show Qrm9_4 Z b1 x0 x1 x2 x3 k1 fmt h0 n0 _ T83.heap _
    rw [e83]
    exact ⟨rfl, N83, rfl⟩
def Qrm7_4 (Z : State) (a1 : Addr) (cs : Int32) (x0 : Int32) (x1 : Int32) (x2 : Int32) (x3 : Int32) (b1 : Addr) (k1 : ClassId) (fmt : Addr) (h0 : Heap) (n0 : Nat) (v : Option Value) (h : Heap) (L : List Loc) : Prop := v = some (.int (nar .char (nar .char ((x1 &&& (255 : Int32)).toUInt32.toUInt16.toUInt32.toInt32)))) ∧ Fr n0 L ∧ h = h0
theorem efrm7_4 (m : MethodId) (x0 : Addr) : entryFrame m #[(.ref x0), (.int (1 : Int32))] 2 = mkF m 0 #[.val (.ref x0), .val (.int (1 : Int32))] [] := by first | (simp [entryFrame, mkF, argsToLocals, Value.category]; done) | rfl
set_option maxRecDepth 65536 in
set_option maxHeartbeats 40000000 in
theorem rm7_4 (l : Launch) (Z : State) (a0 : Array Value) (hw : ∀ d ∈ tables_1, d.before a0 Z = true) (ws : List Jvm.Cond) (a1 : Addr) (cs : Int32) (x0 : Int32) (x1 : Int32) (x2 : Int32) (x3 : Int32) (b1 : Addr) (k1 : ClassId) (fmt : Addr) (h0 : Heap) (n0 : Nat) (Z0 : n0 ≤ h0.size) (P0 : Exa Z h0 a1 "java/lang/String") (P1 : Sta Z h0 "java/lang/String" "COMPACT_STRINGS" "Z" (.int cs)) (P2 : Sta Z h0 "jdk/internal/util/Preconditions" "SIOOBE_FORMATTER" "Ljava/util/function/BiFunction;" (.ref fmt)) (P3 : Fld Z h0 a1 "java/lang/String" "coder" "B" (.int (0 : Int32))) (P4 : Fld Z h0 a1 "java/lang/String" "value" "[B" (.ref b1)) (P5 : Arv Z h0 b1 k1 .byte (4 : Int32) [(.int x0), (.int x1), (.int x2), (.int x3)] (.int (0 : Int32))) (hcs : ¬ (cs = (0 : Int32))) :
    MetFree l (⟨"java/lang/String", "charAt", "(I)C"⟩ : MethodName) (head1 (Jvm.Cond.code (⟨"java/lang/String", "charAt", "(I)C"⟩ : MethodName) jdk_42_method_56_code 2 (some .char) :: ws) ({ frames := 3, cells := 0, slots := 0, locals := 40 } : Room)) (fun a U => a = #[(.ref a1), (.int (1 : Int32))] ∧ Z.Warmed39 U.vm ∧ U.heap = h0) (fun _ _ _ _ _ => True) (fun _ U o U' => ∃ v L, o = .returned v ∧ Qrm7_4 Z a1 cs x0 x1 x2 x3 b1 k1 fmt h0 n0 v U'.heap L ∧ FrameEnd U o U' L ({ frames := 3, cells := 0, slots := 0, locals := 40 } : Room).cells ({ frames := 3, cells := 0, slots := 0, locals := 40 } : Room).slots) := by
  refine MetFree.of_bodySF (plainFor_of_name pn_3) hisR ?_
  intro p e s m args below meth c s₁ Bd hml0 hP hK
  obtain ⟨rfl, hZ, hh⟩ := hP
  have hx := Bd.exec
  have hby := Bd.bytes
  have hml : c.maxLocals = 2 := hml0
  have hown : s.vm.findClass "java/lang/String" = some m.cls := findClass_of_methodNamed Bd.named
  have hnm := (name_of_methodNamed Bd.named Bd.method).1
  have X0 : Stand p l e ({ frames := 3, cells := 0, slots := 0, locals := 40 } : Room) s m #[(.ref a1), (.int (1 : Int32))] below meth c s₁ [] 0 0 := Stand.of_body Bd
  have e0 : s₁.heap = h0 := by rw [← hh, Bd.state]; rfl
  have N0 := Fr.nil n0
  have K0 : Keep h0 h0 [] := Keep.refl h0 _
  refine own_go (B := s₁.setTop (mkF m 0 #[.val (.ref a1), .val (.int (1 : Int32))] [])) (fun t k => castTop (efrm7_4 m a1) k) ?_
  refine own_go (A := s₁.setTop (mkF m 0 #[.val (.ref a1), .val (.int (1 : Int32))] [])) (B := s₁.setTop (mkF m 1 #[.val (.ref a1), .val (.int (1 : Int32))] [(.ref a1)])) (fun t k => ?_) ?_
  · show Steps p.tables e below (s₁.setTop (mkF m 0 #[.val (.ref a1), .val (.int (1 : Int32))] [])) _
    refine XS.aloadN X0.here hx rfl (hb hby d7_0) rfl rfl ?_
    exact k
  obtain ⟨cq85, kq85, q85a, q85b, q85c⟩ := isOf hZ e0 P0
  obtain ⟨_, _, ⟨T85, L85, k85, n85⟩, -, X85, ⟨Lc85, hQ85, l85, y85, z85⟩, st85⟩ := X0.virtualBack hx (y := (⟨"java/lang/String", "isLatin1", "()Z"⟩ : MethodName)) (z := (⟨"java/lang/String", "isLatin1", "()Z"⟩ : MethodName)) hown (mvT hZ (hw _ (List.mem_of_getElem? (i := 56) rfl))) (mvT hZ (hw _ (List.mem_of_getElem? (i := 57) rfl))) (notFace_of_selects (args := #[]) (mvT hZ (hw _ (List.mem_of_getElem? (i := 59) rfl)))) (mvT hZ (hw _ (List.mem_of_getElem? (i := 59) rfl))) (mvT hZ (hw _ (List.mem_of_getElem? (i := 58) rfl))) (by decide) (backOf (W := 0) (rm8 l Z a0 hw [] a1 cs h0 n0 Z0 P1 P3 hcs) hZ (hw _ (List.mem_of_getElem? (i := 60) rfl)) (hw _ (List.mem_of_getElem? (i := 39) rfl)) (by decide) (by decide)) q85a q85c (g := (mkF m 1 #[.val (.ref a1), .val (.int (1 : Int32))] [(.ref a1)])) rfl (by rw [hml]; rfl) (Steps.refl _) (argsL := []) (rest := []) (lenOf pd_4 rfl) rfl (by show 2 * 0 + _ ≤ _; exact Nat.le_of_eq rfl) (hb hby d7_1) (fun _ _ => ⟨rfl, e0, (by decide : 0 + 0 ≤ _), (by decide : 0 + 0 ≤ _)⟩)
  dsimp only [Pt.U, Pt.locs, Pt.cells, Pt.slots] at X85 l85 y85 z85 st85 hQ85
  subst l85 y85 z85
  obtain ⟨rfl, Nq85, e85⟩ := hQ85
  have N85 := Fr.app N0 Nq85
  refine own_go (A := _) (B := T85.setTop (mkF m 4 #[.val (.ref a1), .val (.int (1 : Int32))] [(.int (1 : Int32))])) (fun t k => st85.trans k) ?_
  refine own_go (A := T85.setTop (mkF m 4 #[.val (.ref a1), .val (.int (1 : Int32))] [(.int (1 : Int32))])) (B := T85.setTop (mkF m 8 #[.val (.ref a1), .val (.int (1 : Int32))] [(.ref a1)])) (fun t k => ?_) ?_
  · show Steps p.tables e below (T85.setTop (mkF m 4 #[.val (.ref a1), .val (.int (1 : Int32))] [(.int (1 : Int32))])) _
    refine XS.ifNo X85.here hx rfl (hb hby d7_4) rfl ((if0 _ _).trans (feq (by decide : ¬ ((1 : Int32) = (0 : Int32)))).1) ?_
    show Steps p.tables e below (T85.setTop (mkF m 7 #[.val (.ref a1), .val (.int (1 : Int32))] [])) _
    refine XS.aloadN X85.here hx rfl (hb hby d7_7) rfl rfl ?_
    exact k
  obtain ⟨T87, X87, e87, st87⟩ := getF X85 hx hZ hown (host := "") (Or.inl (hw _ (List.mem_of_getElem? (i := 41) rfl))) Via.refl e85 P4 (g := (mkF m 8 #[.val (.ref a1), .val (.int (1 : Int32))] [(.ref a1)])) rfl rfl (hb hby d7_8)
  refine own_go st87 ?_
  refine own_go (A := T87.setTop (mkF m 11 #[.val (.ref a1), .val (.int (1 : Int32))] [(.ref b1)])) (B := T87.setTop (mkF m 12 #[.val (.ref a1), .val (.int (1 : Int32))] [(.int (1 : Int32)), (.ref b1)])) (fun t k => ?_) ?_
  · show Steps p.tables e below (T87.setTop (mkF m 11 #[.val (.ref a1), .val (.int (1 : Int32))] [(.ref b1)])) _
    refine XS.iloadN X87.here hx rfl (hb hby d7_11) rfl ?_
    exact k
  obtain ⟨_, _, ⟨T88, L88, k88, n88⟩, -, X88, ⟨Lc88, hQ88, l88, y88, z88⟩, st88⟩ := Jvm.LawKit.callS X87 hx (y := (⟨"java/lang/StringLatin1", "charAt", "([BI)C"⟩ : MethodName)) hown (mvT hZ (hw _ (List.mem_of_getElem? (i := 61) rfl))) (mvT hZ (hw _ (List.mem_of_getElem? (i := 62) rfl))) (mvT hZ (hw _ (List.mem_of_getElem? (i := 63) rfl))) (mvT hZ (hw _ (List.mem_of_getElem? (i := 64) rfl))) (by decide) (backOf (W := 0) (rm9_4 l Z a0 hw [] b1 x0 x1 x2 x3 k1 fmt h0 n0 Z0 P2 P5) hZ (hw _ (List.mem_of_getElem? (i := 64) rfl)) (hw _ (List.mem_of_getElem? (i := 63) rfl)) (by decide) (by decide)) (g := (mkF m 12 #[.val (.ref a1), .val (.int (1 : Int32))] [(.int (1 : Int32)), (.ref b1)])) rfl (by rw [hml]; rfl) (argsL := [(.ref b1), (.int (1 : Int32))]) (rest := []) (lenOf pd_5 rfl) rfl (by show 2 * 0 + _ ≤ _; exact Nat.le_of_eq rfl) (hb hby d7_12) (fun _ _ => ⟨rfl, e87, (by decide : 0 + 0 ≤ _), (by decide : 0 + 0 ≤ _)⟩)
  dsimp only [Pt.U, Pt.locs, Pt.cells, Pt.slots] at X88 l88 y88 z88 st88 hQ88
  subst l88 y88 z88
  obtain ⟨rfl, Nq88, e88⟩ := hQ88
  have N88 := Fr.app N85 Nq88
  refine own_go (A := _) (B := T88.setTop (mkF m 15 #[.val (.ref a1), .val (.int (1 : Int32))] [(.int (nar .char ((x1 &&& (255 : Int32)).toUInt32.toUInt16.toUInt32.toInt32)))])) st88 ?_
  obtain ⟨fs, hr, hrun, hended, hW, hsame⟩ := X88.leave (v := some (.int (nar .char (nar .char ((x1 &&& (255 : Int32)).toUInt32.toUInt16.toUInt32.toInt32))))) (fun h => by rw [Bd.returns] at h; cases h)
  refine ⟨_, _, ?_, hrun, hended, _, _, rfl, ?_, ⟨_, rfl⟩, hW, hsame.mono (by decide) (by decide)⟩
  · show Steps p.tables e below (T88.setTop (mkF m 15 #[.val (.ref a1), .val (.int (1 : Int32))] [(.int (nar .char ((x1 &&& (255 : Int32)).toUInt32.toUInt16.toUInt32.toInt32)))])) _
    exact retN X88 hx (t := .char) Bd.returns (by simp) (hb hby d7_15) hr
  · show Qrm7_4 Z a1 cs x0 x1 x2 x3 b1 k1 fmt h0 n0 _ T88.heap _
    rw [e88]
    exact ⟨rfl, N88, rfl⟩
theorem own_eqint {args : Array Value} {s : State} {t : Term} {k : Int32} (h : (Jvm.Cond.eq t (Term.int k)).value args s none s [] = some true) : t.eval args s none [] s = some (.int k) := by
  simp only [Cond.value, Term.eval] at h
  cases ht : t.eval args s none [] s with
  | none => simp [ht] at h
  | some x => cases x <;> simp [ht] at h ⊢; exact h
theorem own_rem (x : Int32) : ((x &&& (2147483647 : Int32)) % (6 : Int32)) = (0 : Int32) ∨ ((x &&& (2147483647 : Int32)) % (6 : Int32)) = (1 : Int32) ∨ ((x &&& (2147483647 : Int32)) % (6 : Int32)) = (2 : Int32) ∨ ((x &&& (2147483647 : Int32)) % (6 : Int32)) = (3 : Int32) ∨ ((x &&& (2147483647 : Int32)) % (6 : Int32)) = (4 : Int32) ∨ ((x &&& (2147483647 : Int32)) % (6 : Int32)) = (5 : Int32) := by
  have h1 := (c_and x 2147483647 (by decide)).1
  have h2 := (c_irem (x &&& (2147483647 : Int32)) 6 6 rfl).1 h1
  have h3 : 0 ≤ ((x &&& (2147483647 : Int32)) % (6 : Int32)).toInt := by rw [h2]; omega
  have h4 : ((x &&& (2147483647 : Int32)) % (6 : Int32)).toInt < 6 := by rw [h2]; omega
  simp only [← Int32.toInt_inj]
  simp only [Int32.reduceToInt]
  omega
def Qrm0 (Z : State) (p1 : Int32) (cs : Int32) (fmt : Addr) (s_Move_FIRST_CHILD : Addr) (s_Move_NEXT_SIBLING : Addr) (s_Move_CONVERSE_FIRST_CHILD : Addr) (s_Move_CONVERSE_NEXT_SIBLING : Addr) (s_Move_TO_DOCUMENT : Addr) (s_Move_FROM_DOCUMENT : Addr) (s_Modality_FIRST_CHILD : Addr) (t0 : Addr) (v0 : Addr) (kk0 : ClassId) (s_Modality_NEXT_SIBLING : Addr) (t1 : Addr) (v1 : Addr) (kk1 : ClassId) (s_Modality_CONVERSE_FIRST_CHILD : Addr) (t2 : Addr) (v2 : Addr) (kk2 : ClassId) (s_Modality_CONVERSE_NEXT_SIBLING : Addr) (t3 : Addr) (v3 : Addr) (kk3 : ClassId) (h0 : Heap) (n0 : Nat) (v : Option Value) (h : Heap) (L : List Loc) : Prop := v = some (.int (1 : Int32)) ∧ Fr n0 L
theorem efrm0 (m : MethodId) (x0 : Int32) : entryFrame m #[(.int x0)] maxLocals = mkF m 0 #[.val (.int x0), .unset, .unset, .unset, .unset, .unset, .unset] [] := by first | (simp [entryFrame, mkF, argsToLocals, Value.category, maxLocals]; done) | rfl
set_option maxRecDepth 65536 in
set_option maxHeartbeats 40000000 in
theorem rm0 (l : Launch) (Z : State) (a0 : Array Value) (hw : ∀ d ∈ tables_1, d.before a0 Z = true) (ws : List Jvm.Cond) (p1 : Int32) (cs : Int32) (fmt : Addr) (s_Move_FIRST_CHILD : Addr) (s_Move_NEXT_SIBLING : Addr) (s_Move_CONVERSE_FIRST_CHILD : Addr) (s_Move_CONVERSE_NEXT_SIBLING : Addr) (s_Move_TO_DOCUMENT : Addr) (s_Move_FROM_DOCUMENT : Addr) (s_Modality_FIRST_CHILD : Addr) (t0 : Addr) (v0 : Addr) (kk0 : ClassId) (s_Modality_NEXT_SIBLING : Addr) (t1 : Addr) (v1 : Addr) (kk1 : ClassId) (s_Modality_CONVERSE_FIRST_CHILD : Addr) (t2 : Addr) (v2 : Addr) (kk2 : ClassId) (s_Modality_CONVERSE_NEXT_SIBLING : Addr) (t3 : Addr) (v3 : Addr) (kk3 : ClassId) (h0 : Heap) (n0 : Nat) (Z0 : n0 ≤ h0.size) (P0 : Sta Z h0 "java/lang/String" "COMPACT_STRINGS" "Z" (.int cs)) (P1 : Sta Z h0 "jdk/internal/util/Preconditions" "SIOOBE_FORMATTER" "Ljava/util/function/BiFunction;" (.ref fmt)) (P2 : Sta Z h0 "com/example/decider/decider/library/xpath/Move" "FIRST_CHILD" "Lcom/example/decider/decider/library/xpath/Move;" (.ref s_Move_FIRST_CHILD)) (P3 : Exa Z h0 s_Move_FIRST_CHILD "com/example/decider/decider/library/xpath/Move") (P4 : Fld Z h0 s_Move_FIRST_CHILD "java/lang/Enum" "ordinal" "I" (.int (0 : Int32))) (P5 : Fld Z h0 s_Move_FIRST_CHILD "com/example/decider/decider/library/xpath/Move" "modality" "Lcom/example/decider/decider/logic/formula/Modality;" (.ref s_Modality_FIRST_CHILD)) (P6 : Sta Z h0 "com/example/decider/decider/library/xpath/Move" "NEXT_SIBLING" "Lcom/example/decider/decider/library/xpath/Move;" (.ref s_Move_NEXT_SIBLING)) (P7 : Exa Z h0 s_Move_NEXT_SIBLING "com/example/decider/decider/library/xpath/Move") (P8 : Fld Z h0 s_Move_NEXT_SIBLING "java/lang/Enum" "ordinal" "I" (.int (1 : Int32))) (P9 : Fld Z h0 s_Move_NEXT_SIBLING "com/example/decider/decider/library/xpath/Move" "modality" "Lcom/example/decider/decider/logic/formula/Modality;" (.ref s_Modality_NEXT_SIBLING)) (P10 : Sta Z h0 "com/example/decider/decider/library/xpath/Move" "CONVERSE_FIRST_CHILD" "Lcom/example/decider/decider/library/xpath/Move;" (.ref s_Move_CONVERSE_FIRST_CHILD)) (P11 : Exa Z h0 s_Move_CONVERSE_FIRST_CHILD "com/example/decider/decider/library/xpath/Move") (P12 : Fld Z h0 s_Move_CONVERSE_FIRST_CHILD "java/lang/Enum" "ordinal" "I" (.int (2 : Int32))) (P13 : Fld Z h0 s_Move_CONVERSE_FIRST_CHILD "com/example/decider/decider/library/xpath/Move" "modality" "Lcom/example/decider/decider/logic/formula/Modality;" (.ref s_Modality_CONVERSE_FIRST_CHILD)) (P14 : Sta Z h0 "com/example/decider/decider/library/xpath/Move" "CONVERSE_NEXT_SIBLING" "Lcom/example/decider/decider/library/xpath/Move;" (.ref s_Move_CONVERSE_NEXT_SIBLING)) (P15 : Exa Z h0 s_Move_CONVERSE_NEXT_SIBLING "com/example/decider/decider/library/xpath/Move") (P16 : Fld Z h0 s_Move_CONVERSE_NEXT_SIBLING "java/lang/Enum" "ordinal" "I" (.int (3 : Int32))) (P17 : Fld Z h0 s_Move_CONVERSE_NEXT_SIBLING "com/example/decider/decider/library/xpath/Move" "modality" "Lcom/example/decider/decider/logic/formula/Modality;" (.ref s_Modality_CONVERSE_NEXT_SIBLING)) (P18 : Sta Z h0 "com/example/decider/decider/library/xpath/Move" "TO_DOCUMENT" "Lcom/example/decider/decider/library/xpath/Move;" (.ref s_Move_TO_DOCUMENT)) (P19 : Exa Z h0 s_Move_TO_DOCUMENT "com/example/decider/decider/library/xpath/Move") (P20 : Fld Z h0 s_Move_TO_DOCUMENT "java/lang/Enum" "ordinal" "I" (.int (4 : Int32))) (P21 : Fld Z h0 s_Move_TO_DOCUMENT "com/example/decider/decider/library/xpath/Move" "modality" "Lcom/example/decider/decider/logic/formula/Modality;" .null) (P22 : Sta Z h0 "com/example/decider/decider/library/xpath/Move" "FROM_DOCUMENT" "Lcom/example/decider/decider/library/xpath/Move;" (.ref s_Move_FROM_DOCUMENT)) (P23 : Exa Z h0 s_Move_FROM_DOCUMENT "com/example/decider/decider/library/xpath/Move") (P24 : Fld Z h0 s_Move_FROM_DOCUMENT "java/lang/Enum" "ordinal" "I" (.int (5 : Int32))) (P25 : Fld Z h0 s_Move_FROM_DOCUMENT "com/example/decider/decider/library/xpath/Move" "modality" "Lcom/example/decider/decider/logic/formula/Modality;" .null) (P26 : Exa Z h0 s_Modality_FIRST_CHILD "com/example/decider/decider/logic/formula/Modality") (P27 : Fld Z h0 s_Modality_FIRST_CHILD "com/example/decider/decider/logic/formula/Modality" "spelling" "Ljava/lang/String;" (.ref t0)) (P28 : Exa Z h0 t0 "java/lang/String") (P29 : Fld Z h0 t0 "java/lang/String" "value" "[B" (.ref v0)) (P30 : Fld Z h0 t0 "java/lang/String" "coder" "B" (.int (0 : Int32))) (P31 : Arv Z h0 v0 kk0 .byte (3 : Int32) [(.int (60 : Int32)), (.int (49 : Int32)), (.int (62 : Int32))] (.int (0 : Int32))) (P32 : Exa Z h0 s_Modality_NEXT_SIBLING "com/example/decider/decider/logic/formula/Modality") (P33 : Fld Z h0 s_Modality_NEXT_SIBLING "com/example/decider/decider/logic/formula/Modality" "spelling" "Ljava/lang/String;" (.ref t1)) (P34 : Exa Z h0 t1 "java/lang/String") (P35 : Fld Z h0 t1 "java/lang/String" "value" "[B" (.ref v1)) (P36 : Fld Z h0 t1 "java/lang/String" "coder" "B" (.int (0 : Int32))) (P37 : Arv Z h0 v1 kk1 .byte (3 : Int32) [(.int (60 : Int32)), (.int (50 : Int32)), (.int (62 : Int32))] (.int (0 : Int32))) (P38 : Exa Z h0 s_Modality_CONVERSE_FIRST_CHILD "com/example/decider/decider/logic/formula/Modality") (P39 : Fld Z h0 s_Modality_CONVERSE_FIRST_CHILD "com/example/decider/decider/logic/formula/Modality" "spelling" "Ljava/lang/String;" (.ref t2)) (P40 : Exa Z h0 t2 "java/lang/String") (P41 : Fld Z h0 t2 "java/lang/String" "value" "[B" (.ref v2)) (P42 : Fld Z h0 t2 "java/lang/String" "coder" "B" (.int (0 : Int32))) (P43 : Arv Z h0 v2 kk2 .byte (4 : Int32) [(.int (60 : Int32)), (.int (45 : Int32)), (.int (49 : Int32)), (.int (62 : Int32))] (.int (0 : Int32))) (P44 : Exa Z h0 s_Modality_CONVERSE_NEXT_SIBLING "com/example/decider/decider/logic/formula/Modality") (P45 : Fld Z h0 s_Modality_CONVERSE_NEXT_SIBLING "com/example/decider/decider/logic/formula/Modality" "spelling" "Ljava/lang/String;" (.ref t3)) (P46 : Exa Z h0 t3 "java/lang/String") (P47 : Fld Z h0 t3 "java/lang/String" "value" "[B" (.ref v3)) (P48 : Fld Z h0 t3 "java/lang/String" "coder" "B" (.int (0 : Int32))) (P49 : Arv Z h0 v3 kk3 .byte (4 : Int32) [(.int (60 : Int32)), (.int (45 : Int32)), (.int (50 : Int32)), (.int (62 : Int32))] (.int (0 : Int32))) (ne_s_Move_FIRST_CHILD_s_Move_CONVERSE_FIRST_CHILD : s_Move_FIRST_CHILD ≠ s_Move_CONVERSE_FIRST_CHILD) (ne_s_Move_FIRST_CHILD_s_Move_CONVERSE_NEXT_SIBLING : s_Move_FIRST_CHILD ≠ s_Move_CONVERSE_NEXT_SIBLING) (ne_s_Move_FIRST_CHILD_s_Move_TO_DOCUMENT : s_Move_FIRST_CHILD ≠ s_Move_TO_DOCUMENT) (ne_s_Move_NEXT_SIBLING_s_Move_CONVERSE_FIRST_CHILD : s_Move_NEXT_SIBLING ≠ s_Move_CONVERSE_FIRST_CHILD) (ne_s_Move_NEXT_SIBLING_s_Move_CONVERSE_NEXT_SIBLING : s_Move_NEXT_SIBLING ≠ s_Move_CONVERSE_NEXT_SIBLING) (ne_s_Move_NEXT_SIBLING_s_Move_TO_DOCUMENT : s_Move_NEXT_SIBLING ≠ s_Move_TO_DOCUMENT) (ne_s_Move_CONVERSE_NEXT_SIBLING_s_Move_CONVERSE_FIRST_CHILD : s_Move_CONVERSE_NEXT_SIBLING ≠ s_Move_CONVERSE_FIRST_CHILD) (ne_s_Move_TO_DOCUMENT_s_Move_CONVERSE_FIRST_CHILD : s_Move_TO_DOCUMENT ≠ s_Move_CONVERSE_FIRST_CHILD) (ne_s_Move_TO_DOCUMENT_s_Move_CONVERSE_NEXT_SIBLING : s_Move_TO_DOCUMENT ≠ s_Move_CONVERSE_NEXT_SIBLING) (ne_s_Move_FROM_DOCUMENT_s_Move_CONVERSE_FIRST_CHILD : s_Move_FROM_DOCUMENT ≠ s_Move_CONVERSE_FIRST_CHILD) (ne_s_Move_FROM_DOCUMENT_s_Move_CONVERSE_NEXT_SIBLING : s_Move_FROM_DOCUMENT ≠ s_Move_CONVERSE_NEXT_SIBLING) (ne_s_Move_FROM_DOCUMENT_s_Move_TO_DOCUMENT : s_Move_FROM_DOCUMENT ≠ s_Move_TO_DOCUMENT) (hcs : ¬ (cs = (0 : Int32))) :
    MetFree l x (head1 (Jvm.Cond.code x code maxLocals ret :: ws) room_1) (fun a U => a = #[(.int p1)] ∧ Z.Warmed39 U.vm ∧ U.heap = h0) (fun _ _ _ _ _ => True) (fun _ U o U' => ∃ v L, o = .returned v ∧ Qrm0 Z p1 cs fmt s_Move_FIRST_CHILD s_Move_NEXT_SIBLING s_Move_CONVERSE_FIRST_CHILD s_Move_CONVERSE_NEXT_SIBLING s_Move_TO_DOCUMENT s_Move_FROM_DOCUMENT s_Modality_FIRST_CHILD t0 v0 kk0 s_Modality_NEXT_SIBLING t1 v1 kk1 s_Modality_CONVERSE_FIRST_CHILD t2 v2 kk2 s_Modality_CONVERSE_NEXT_SIBLING t3 v3 kk3 h0 n0 v U'.heap L ∧ FrameEnd U o U' L room_1.cells room_1.slots) := by
  refine MetFree.of_bodySF (plainFor_of_name pn_0) hisR ?_
  intro p e s m args below meth c s₁ Bd hml0 hP hK
  obtain ⟨rfl, hZ, hh⟩ := hP
  have hx := Bd.exec
  have hby := Bd.bytes
  have hml : c.maxLocals = 7 := hml0
  have hown : s.vm.findClass "com/example/decider/decider/library/xpath/MoveUpwardPinLaw" = some m.cls := findClass_of_methodNamed Bd.named
  have hnm := (name_of_methodNamed Bd.named Bd.method).1
  have X0 : Stand p l e room_1 s m #[(.int p1)] below meth c s₁ [] 0 0 := Stand.of_body Bd
  have e0 : s₁.heap = h0 := by rw [← hh, Bd.state]; rfl
  have N0 := Fr.nil n0
  have K0 : Keep h0 h0 [] := Keep.refl h0 _
  refine own_go (B := s₁.setTop (mkF m 0 #[.val (.int p1), .unset, .unset, .unset, .unset, .unset, .unset] [])) (fun t k => castTop (efrm0 m p1) k) ?_
  refine own_go (A := s₁.setTop (mkF m 0 #[.val (.int p1), .unset, .unset, .unset, .unset, .unset, .unset] [])) (B := s₁.setTop (mkF m 7 #[.val (.int p1), .unset, .unset, .unset, .unset, .unset, .unset] [(.int ((p1 &&& (2147483647 : Int32)) % (6 : Int32)))])) (fun t k => ?_) ?_
  · show Steps p.tables e below (s₁.setTop (mkF m 0 #[.val (.int p1), .unset, .unset, .unset, .unset, .unset, .unset] [])) _
    refine XS.iloadN X0.here hx rfl (hb hby at_0) rfl ?_
    show Steps p.tables e below (s₁.setTop (mkF m 1 #[.val (.int p1), .unset, .unset, .unset, .unset, .unset, .unset] [(.int p1)])) _
    refine X0.ldcInt hx hown (mvT hZ (hw _ (List.mem_of_getElem? (i := 0) rfl))) (g := (mkF m 1 #[.val (.int p1), .unset, .unset, .unset, .unset, .unset, .unset] [(.int p1)])) rfl (hb hby at_1) _ ?_
    show Steps p.tables e below (s₁.setTop (mkF m 3 #[.val (.int p1), .unset, .unset, .unset, .unset, .unset, .unset] [(.int (2147483647 : Int32)), (.int p1)])) _
    refine XS.iand X0.here hx rfl (hb hby at_3) rfl ?_
    show Steps p.tables e below (s₁.setTop (mkF m 4 #[.val (.int p1), .unset, .unset, .unset, .unset, .unset, .unset] [(.int (p1 &&& (2147483647 : Int32)))])) _
    refine XS.bipush X0.here hx rfl (hb hby at_4) ?_
    show Steps p.tables e below (s₁.setTop (mkF m 6 #[.val (.int p1), .unset, .unset, .unset, .unset, .unset, .unset] [(.int (6 : Int32)), (.int (p1 &&& (2147483647 : Int32)))])) _
    refine iremM X0 hx rfl (hb hby at_6) rfl (by decide) ?_
    exact k
  rcases own_rem _ with hk89 | hk89 | hk89 | hk89 | hk89 | hk89
  · rw [hk89]
    refine own_go (A := s₁.setTop (mkF m 7 #[.val (.int p1), .unset, .unset, .unset, .unset, .unset, .unset] [(.int (0 : Int32))])) (B := s₁.setTop (mkF m 9 #[.val (.int p1), .val (.int (0 : Int32)), .unset, .unset, .unset, .unset, .unset] [(.int (0 : Int32))])) (fun t k => ?_) ?_
    · show Steps p.tables e below (s₁.setTop (mkF m 7 #[.val (.int p1), .unset, .unset, .unset, .unset, .unset, .unset] [(.int (0 : Int32))])) _
      refine XS.istoreN X0.here hx rfl (hb hby at_7) rfl (l' := #[.val (.int p1), .val (.int (0 : Int32)), .unset, .unset, .unset, .unset, .unset]) rfl ?_
      show Steps p.tables e below (s₁.setTop (mkF m 8 #[.val (.int p1), .val (.int (0 : Int32)), .unset, .unset, .unset, .unset, .unset] [])) _
      refine XS.iloadN X0.here hx rfl (hb hby at_8) rfl ?_
      exact k
    obtain ⟨_, _, ⟨T90, L90, k90, n90⟩, -, X90, ⟨Lc90, hQ90, l90, y90, z90⟩, st90⟩ := Jvm.LawKit.callS X0 hx (y := (⟨"com/example/decider/decider/library/xpath/MoveUpwardPinLaw", "pick", "(I)Lcom/example/decider/decider/library/xpath/Move;"⟩ : MethodName)) hown (mvT hZ (hw _ (List.mem_of_getElem? (i := 1) rfl))) (mvT hZ (hw _ (List.mem_of_getElem? (i := 2) rfl))) (mvT hZ (hw _ (List.mem_of_getElem? (i := 3) rfl))) (mvT hZ (hw _ (List.mem_of_getElem? (i := 4) rfl))) (by decide) (backOf (W := 0) (rm1_0 l Z a0 hw [] s_Move_FIRST_CHILD h0 n0 Z0 P2) hZ (hw _ (List.mem_of_getElem? (i := 4) rfl)) (hw _ (List.mem_of_getElem? (i := 3) rfl)) (by decide) (by decide)) (g := (mkF m 9 #[.val (.int p1), .val (.int (0 : Int32)), .unset, .unset, .unset, .unset, .unset] [(.int (0 : Int32))])) rfl (by rw [hml]; rfl) (argsL := [(.int (0 : Int32))]) (rest := []) (lenOf pd_6 rfl) rfl (by show 2 * 0 + _ ≤ _; exact Nat.le_of_eq rfl) (hb hby at_9) (fun _ _ => ⟨rfl, e0, (by decide : 0 + 0 ≤ _), (by decide : 0 + 0 ≤ _)⟩)
    dsimp only [Pt.U, Pt.locs, Pt.cells, Pt.slots] at X90 l90 y90 z90 st90 hQ90
    subst l90 y90 z90
    obtain ⟨rfl, Nq90, e90⟩ := hQ90
    have N90 := Fr.app N0 Nq90
    refine own_go (A := _) (B := T90.setTop (mkF m 12 #[.val (.int p1), .val (.int (0 : Int32)), .unset, .unset, .unset, .unset, .unset] [(.ref s_Move_FIRST_CHILD)])) st90 ?_
    refine own_go (A := T90.setTop (mkF m 12 #[.val (.int p1), .val (.int (0 : Int32)), .unset, .unset, .unset, .unset, .unset] [(.ref s_Move_FIRST_CHILD)])) (B := T90.setTop (mkF m 14 #[.val (.int p1), .val (.int (0 : Int32)), .val (.ref s_Move_FIRST_CHILD), .unset, .unset, .unset, .unset] [(.ref s_Move_FIRST_CHILD)])) (fun t k => ?_) ?_
    · show Steps p.tables e below (T90.setTop (mkF m 12 #[.val (.int p1), .val (.int (0 : Int32)), .unset, .unset, .unset, .unset, .unset] [(.ref s_Move_FIRST_CHILD)])) _
      refine XS.astoreN X90.here hx rfl (hb hby at_12) rfl rfl (l' := #[.val (.int p1), .val (.int (0 : Int32)), .val (.ref s_Move_FIRST_CHILD), .unset, .unset, .unset, .unset]) rfl ?_
      show Steps p.tables e below (T90.setTop (mkF m 13 #[.val (.int p1), .val (.int (0 : Int32)), .val (.ref s_Move_FIRST_CHILD), .unset, .unset, .unset, .unset] [])) _
      refine XS.aloadN X90.here hx rfl (hb hby at_13) rfl rfl ?_
      exact k
    obtain ⟨cq91, kq91, q91a, q91b, q91c⟩ := isOf hZ e90 P3
    obtain ⟨_, _, ⟨T91, L91, k91, n91⟩, -, X91, ⟨Lc91, hQ91, l91, y91, z91⟩, st91⟩ := X90.virtualBack hx (y := (⟨"com/example/decider/decider/library/xpath/Move", "upward", "()Z"⟩ : MethodName)) (z := (⟨"com/example/decider/decider/library/xpath/Move", "upward", "()Z"⟩ : MethodName)) hown (mvT hZ (hw _ (List.mem_of_getElem? (i := 8) rfl))) (mvT hZ (hw _ (List.mem_of_getElem? (i := 9) rfl))) (notFace_of_selects (args := #[]) (mvT hZ (hw _ (List.mem_of_getElem? (i := 11) rfl)))) (mvT hZ (hw _ (List.mem_of_getElem? (i := 11) rfl))) (mvT hZ (hw _ (List.mem_of_getElem? (i := 10) rfl))) (by decide) (backOf (W := 0) (rm2 l Z a0 hw [] s_Move_FIRST_CHILD s_Move_CONVERSE_FIRST_CHILD s_Move_CONVERSE_NEXT_SIBLING s_Move_TO_DOCUMENT h0 n0 Z0 P10 P14 P18) hZ (hw _ (List.mem_of_getElem? (i := 12) rfl)) (hw _ (List.mem_of_getElem? (i := 6) rfl)) (by decide) (by decide)) q91a q91c (g := (mkF m 14 #[.val (.int p1), .val (.int (0 : Int32)), .val (.ref s_Move_FIRST_CHILD), .unset, .unset, .unset, .unset] [(.ref s_Move_FIRST_CHILD)])) rfl (by rw [hml]; rfl) (Steps.refl _) (argsL := []) (rest := []) (lenOf pd_4 rfl) rfl (by show 2 * 0 + _ ≤ _; exact Nat.le_of_eq rfl) (hb hby at_14) (fun _ _ => ⟨rfl, e90, (by decide : 0 + 0 ≤ _), (by decide : 0 + 0 ≤ _)⟩)
    dsimp only [Pt.U, Pt.locs, Pt.cells, Pt.slots] at X91 l91 y91 z91 st91 hQ91
    subst l91 y91 z91
    obtain ⟨rfl, Nq91, e91⟩ := hQ91
    have N91 := Fr.app N90 Nq91
    refine own_go (A := _) (B := T91.setTop (mkF m 17 #[.val (.int p1), .val (.int (0 : Int32)), .val (.ref s_Move_FIRST_CHILD), .unset, .unset, .unset, .unset] [(.int (frm2 s_Move_FIRST_CHILD s_Move_CONVERSE_FIRST_CHILD s_Move_CONVERSE_NEXT_SIBLING s_Move_TO_DOCUMENT))])) (fun t k => st91.trans k) ?_
    refine own_go (A := T91.setTop (mkF m 17 #[.val (.int p1), .val (.int (0 : Int32)), .val (.ref s_Move_FIRST_CHILD), .unset, .unset, .unset, .unset] [(.int (frm2 s_Move_FIRST_CHILD s_Move_CONVERSE_FIRST_CHILD s_Move_CONVERSE_NEXT_SIBLING s_Move_TO_DOCUMENT))])) (B := T91.setTop (mkF m 19 #[.val (.int p1), .val (.int (0 : Int32)), .val (.ref s_Move_FIRST_CHILD), .val (.int (frm2 s_Move_FIRST_CHILD s_Move_CONVERSE_FIRST_CHILD s_Move_CONVERSE_NEXT_SIBLING s_Move_TO_DOCUMENT)), .unset, .unset, .unset] [(.ref s_Move_FIRST_CHILD)])) (fun t k => ?_) ?_
    · show Steps p.tables e below (T91.setTop (mkF m 17 #[.val (.int p1), .val (.int (0 : Int32)), .val (.ref s_Move_FIRST_CHILD), .unset, .unset, .unset, .unset] [(.int (frm2 s_Move_FIRST_CHILD s_Move_CONVERSE_FIRST_CHILD s_Move_CONVERSE_NEXT_SIBLING s_Move_TO_DOCUMENT))])) _
      refine XS.istoreN X91.here hx rfl (hb hby at_17) rfl (l' := #[.val (.int p1), .val (.int (0 : Int32)), .val (.ref s_Move_FIRST_CHILD), .val (.int (frm2 s_Move_FIRST_CHILD s_Move_CONVERSE_FIRST_CHILD s_Move_CONVERSE_NEXT_SIBLING s_Move_TO_DOCUMENT)), .unset, .unset, .unset]) rfl ?_
      show Steps p.tables e below (T91.setTop (mkF m 18 #[.val (.int p1), .val (.int (0 : Int32)), .val (.ref s_Move_FIRST_CHILD), .val (.int (frm2 s_Move_FIRST_CHILD s_Move_CONVERSE_FIRST_CHILD s_Move_CONVERSE_NEXT_SIBLING s_Move_TO_DOCUMENT)), .unset, .unset, .unset] [])) _
      refine XS.aloadN X91.here hx rfl (hb hby at_18) rfl rfl ?_
      exact k
    obtain ⟨cq92, kq92, q92a, q92b, q92c⟩ := isOf hZ e91 P3
    obtain ⟨_, _, ⟨T92, L92, k92, n92⟩, -, X92, ⟨Lc92, hQ92, l92, y92, z92⟩, st92⟩ := X91.virtualBack hx (y := (⟨"com/example/decider/decider/library/xpath/Move", "modality", "()Lcom/example/decider/decider/logic/formula/Modality;"⟩ : MethodName)) (z := (⟨"com/example/decider/decider/library/xpath/Move", "modality", "()Lcom/example/decider/decider/logic/formula/Modality;"⟩ : MethodName)) hown (mvT hZ (hw _ (List.mem_of_getElem? (i := 19) rfl))) (mvT hZ (hw _ (List.mem_of_getElem? (i := 20) rfl))) (notFace_of_selects (args := #[]) (mvT hZ (hw _ (List.mem_of_getElem? (i := 22) rfl)))) (mvT hZ (hw _ (List.mem_of_getElem? (i := 22) rfl))) (mvT hZ (hw _ (List.mem_of_getElem? (i := 21) rfl))) (by decide) (backOf (W := 0) (rm3 l Z a0 hw [] s_Move_FIRST_CHILD s_Modality_FIRST_CHILD h0 n0 Z0 P5) hZ (hw _ (List.mem_of_getElem? (i := 23) rfl)) (hw _ (List.mem_of_getElem? (i := 6) rfl)) (by decide) (by decide)) q92a q92c (g := (mkF m 19 #[.val (.int p1), .val (.int (0 : Int32)), .val (.ref s_Move_FIRST_CHILD), .val (.int (frm2 s_Move_FIRST_CHILD s_Move_CONVERSE_FIRST_CHILD s_Move_CONVERSE_NEXT_SIBLING s_Move_TO_DOCUMENT)), .unset, .unset, .unset] [(.ref s_Move_FIRST_CHILD)])) rfl (by rw [hml]; rfl) (Steps.refl _) (argsL := []) (rest := []) (lenOf pd_7 rfl) rfl (by show 2 * 0 + _ ≤ _; exact Nat.le_of_eq rfl) (hb hby at_19) (fun _ _ => ⟨rfl, e91, (by decide : 0 + 0 ≤ _), (by decide : 0 + 0 ≤ _)⟩)
    dsimp only [Pt.U, Pt.locs, Pt.cells, Pt.slots] at X92 l92 y92 z92 st92 hQ92
    subst l92 y92 z92
    obtain ⟨rfl, Nq92, e92⟩ := hQ92
    have N92 := Fr.app N91 Nq92
    refine own_go (A := _) (B := T92.setTop (mkF m 22 #[.val (.int p1), .val (.int (0 : Int32)), .val (.ref s_Move_FIRST_CHILD), .val (.int (frm2 s_Move_FIRST_CHILD s_Move_CONVERSE_FIRST_CHILD s_Move_CONVERSE_NEXT_SIBLING s_Move_TO_DOCUMENT)), .unset, .unset, .unset] [(.ref s_Modality_FIRST_CHILD)])) (fun t k => st92.trans k) ?_
    refine own_go (A := T92.setTop (mkF m 22 #[.val (.int p1), .val (.int (0 : Int32)), .val (.ref s_Move_FIRST_CHILD), .val (.int (frm2 s_Move_FIRST_CHILD s_Move_CONVERSE_FIRST_CHILD s_Move_CONVERSE_NEXT_SIBLING s_Move_TO_DOCUMENT)), .unset, .unset, .unset] [(.ref s_Modality_FIRST_CHILD)])) (B := T92.setTop (mkF m 31 #[.val (.int p1), .val (.int (0 : Int32)), .val (.ref s_Move_FIRST_CHILD), .val (.int (frm2 s_Move_FIRST_CHILD s_Move_CONVERSE_FIRST_CHILD s_Move_CONVERSE_NEXT_SIBLING s_Move_TO_DOCUMENT)), .val (.ref s_Modality_FIRST_CHILD), .unset, .unset] [(.ref s_Modality_FIRST_CHILD)])) (fun t k => ?_) ?_
    · show Steps p.tables e below (T92.setTop (mkF m 22 #[.val (.int p1), .val (.int (0 : Int32)), .val (.ref s_Move_FIRST_CHILD), .val (.int (frm2 s_Move_FIRST_CHILD s_Move_CONVERSE_FIRST_CHILD s_Move_CONVERSE_NEXT_SIBLING s_Move_TO_DOCUMENT)), .unset, .unset, .unset] [(.ref s_Modality_FIRST_CHILD)])) _
      refine XS.astore X92.here hx rfl (hb hby at_22) rfl rfl (l' := #[.val (.int p1), .val (.int (0 : Int32)), .val (.ref s_Move_FIRST_CHILD), .val (.int (frm2 s_Move_FIRST_CHILD s_Move_CONVERSE_FIRST_CHILD s_Move_CONVERSE_NEXT_SIBLING s_Move_TO_DOCUMENT)), .val (.ref s_Modality_FIRST_CHILD), .unset, .unset]) rfl ?_
      show Steps p.tables e below (T92.setTop (mkF m 24 #[.val (.int p1), .val (.int (0 : Int32)), .val (.ref s_Move_FIRST_CHILD), .val (.int (frm2 s_Move_FIRST_CHILD s_Move_CONVERSE_FIRST_CHILD s_Move_CONVERSE_NEXT_SIBLING s_Move_TO_DOCUMENT)), .val (.ref s_Modality_FIRST_CHILD), .unset, .unset] [])) _
      refine XS.aload X92.here hx rfl (hb hby at_24) rfl rfl ?_
      show Steps p.tables e below (T92.setTop (mkF m 26 #[.val (.int p1), .val (.int (0 : Int32)), .val (.ref s_Move_FIRST_CHILD), .val (.int (frm2 s_Move_FIRST_CHILD s_Move_CONVERSE_FIRST_CHILD s_Move_CONVERSE_NEXT_SIBLING s_Move_TO_DOCUMENT)), .val (.ref s_Modality_FIRST_CHILD), .unset, .unset] [(.ref s_Modality_FIRST_CHILD)])) _
      refine XS.ifnullNo X92.here hx rfl (hb hby at_26) rfl ?_
      show Steps p.tables e below (T92.setTop (mkF m 29 #[.val (.int p1), .val (.int (0 : Int32)), .val (.ref s_Move_FIRST_CHILD), .val (.int (frm2 s_Move_FIRST_CHILD s_Move_CONVERSE_FIRST_CHILD s_Move_CONVERSE_NEXT_SIBLING s_Move_TO_DOCUMENT)), .val (.ref s_Modality_FIRST_CHILD), .unset, .unset] [])) _
      refine XS.aload X92.here hx rfl (hb hby at_29) rfl rfl ?_
      exact k
    obtain ⟨cq93, kq93, q93a, q93b, q93c⟩ := isOf hZ e92 P26
    obtain ⟨_, _, ⟨T93, L93, k93, n93⟩, -, X93, ⟨Lc93, hQ93, l93, y93, z93⟩, st93⟩ := X92.virtualBack hx (y := (⟨"com/example/decider/decider/logic/formula/Modality", "spelling", "()Ljava/lang/String;"⟩ : MethodName)) (z := (⟨"com/example/decider/decider/logic/formula/Modality", "spelling", "()Ljava/lang/String;"⟩ : MethodName)) hown (mvT hZ (hw _ (List.mem_of_getElem? (i := 28) rfl))) (mvT hZ (hw _ (List.mem_of_getElem? (i := 29) rfl))) (notFace_of_selects (args := #[]) (mvT hZ (hw _ (List.mem_of_getElem? (i := 31) rfl)))) (mvT hZ (hw _ (List.mem_of_getElem? (i := 31) rfl))) (mvT hZ (hw _ (List.mem_of_getElem? (i := 30) rfl))) (by decide) (backOf (W := 0) (rm4 l Z a0 hw [] s_Modality_FIRST_CHILD t0 h0 n0 Z0 P27) hZ (hw _ (List.mem_of_getElem? (i := 32) rfl)) (hw _ (List.mem_of_getElem? (i := 26) rfl)) (by decide) (by decide)) q93a q93c (g := (mkF m 31 #[.val (.int p1), .val (.int (0 : Int32)), .val (.ref s_Move_FIRST_CHILD), .val (.int (frm2 s_Move_FIRST_CHILD s_Move_CONVERSE_FIRST_CHILD s_Move_CONVERSE_NEXT_SIBLING s_Move_TO_DOCUMENT)), .val (.ref s_Modality_FIRST_CHILD), .unset, .unset] [(.ref s_Modality_FIRST_CHILD)])) rfl (by rw [hml]; rfl) (Steps.refl _) (argsL := []) (rest := []) (lenOf pd_8 rfl) rfl (by show 2 * 0 + _ ≤ _; exact Nat.le_of_eq rfl) (hb hby at_31) (fun _ _ => ⟨rfl, e92, (by decide : 0 + 0 ≤ _), (by decide : 0 + 0 ≤ _)⟩)
    dsimp only [Pt.U, Pt.locs, Pt.cells, Pt.slots] at X93 l93 y93 z93 st93 hQ93
    subst l93 y93 z93
    obtain ⟨rfl, Nq93, e93⟩ := hQ93
    have N93 := Fr.app N92 Nq93
    refine own_go (A := _) (B := T93.setTop (mkF m 34 #[.val (.int p1), .val (.int (0 : Int32)), .val (.ref s_Move_FIRST_CHILD), .val (.int (frm2 s_Move_FIRST_CHILD s_Move_CONVERSE_FIRST_CHILD s_Move_CONVERSE_NEXT_SIBLING s_Move_TO_DOCUMENT)), .val (.ref s_Modality_FIRST_CHILD), .unset, .unset] [(.ref t0)])) (fun t k => st93.trans k) ?_
    refine own_go (A := T93.setTop (mkF m 34 #[.val (.int p1), .val (.int (0 : Int32)), .val (.ref s_Move_FIRST_CHILD), .val (.int (frm2 s_Move_FIRST_CHILD s_Move_CONVERSE_FIRST_CHILD s_Move_CONVERSE_NEXT_SIBLING s_Move_TO_DOCUMENT)), .val (.ref s_Modality_FIRST_CHILD), .unset, .unset] [(.ref t0)])) (B := T93.setTop (mkF m 38 #[.val (.int p1), .val (.int (0 : Int32)), .val (.ref s_Move_FIRST_CHILD), .val (.int (frm2 s_Move_FIRST_CHILD s_Move_CONVERSE_FIRST_CHILD s_Move_CONVERSE_NEXT_SIBLING s_Move_TO_DOCUMENT)), .val (.ref s_Modality_FIRST_CHILD), .unset, .val (.ref t0)] [(.ref t0)])) (fun t k => ?_) ?_
    · show Steps p.tables e below (T93.setTop (mkF m 34 #[.val (.int p1), .val (.int (0 : Int32)), .val (.ref s_Move_FIRST_CHILD), .val (.int (frm2 s_Move_FIRST_CHILD s_Move_CONVERSE_FIRST_CHILD s_Move_CONVERSE_NEXT_SIBLING s_Move_TO_DOCUMENT)), .val (.ref s_Modality_FIRST_CHILD), .unset, .unset] [(.ref t0)])) _
      refine XS.astore X93.here hx rfl (hb hby at_34) rfl rfl (l' := #[.val (.int p1), .val (.int (0 : Int32)), .val (.ref s_Move_FIRST_CHILD), .val (.int (frm2 s_Move_FIRST_CHILD s_Move_CONVERSE_FIRST_CHILD s_Move_CONVERSE_NEXT_SIBLING s_Move_TO_DOCUMENT)), .val (.ref s_Modality_FIRST_CHILD), .unset, .val (.ref t0)]) rfl ?_
      show Steps p.tables e below (T93.setTop (mkF m 36 #[.val (.int p1), .val (.int (0 : Int32)), .val (.ref s_Move_FIRST_CHILD), .val (.int (frm2 s_Move_FIRST_CHILD s_Move_CONVERSE_FIRST_CHILD s_Move_CONVERSE_NEXT_SIBLING s_Move_TO_DOCUMENT)), .val (.ref s_Modality_FIRST_CHILD), .unset, .val (.ref t0)] [])) _
      refine XS.aload X93.here hx rfl (hb hby at_36) rfl rfl ?_
      exact k
    obtain ⟨cq94, kq94, q94a, q94b, q94c⟩ := isOf hZ e93 P28
    obtain ⟨_, _, ⟨T94, L94, k94, n94⟩, -, X94, ⟨Lc94, hQ94, l94, y94, z94⟩, st94⟩ := X93.virtualBack hx (y := (⟨"java/lang/String", "length", "()I"⟩ : MethodName)) (z := (⟨"java/lang/String", "length", "()I"⟩ : MethodName)) hown (mvT hZ (hw _ (List.mem_of_getElem? (i := 35) rfl))) (mvT hZ (hw _ (List.mem_of_getElem? (i := 36) rfl))) (notFace_of_selects (args := #[]) (mvT hZ (hw _ (List.mem_of_getElem? (i := 38) rfl)))) (mvT hZ (hw _ (List.mem_of_getElem? (i := 38) rfl))) (mvT hZ (hw _ (List.mem_of_getElem? (i := 37) rfl))) (by decide) (backOf (W := 0) (rm5_3 l Z a0 hw [] t0 cs (60 : Int32) (49 : Int32) (62 : Int32) v0 kk0 h0 n0 Z0 P28 P0 P30 P29 P31 hcs) hZ (hw _ (List.mem_of_getElem? (i := 40) rfl)) (hw _ (List.mem_of_getElem? (i := 39) rfl)) (by decide) (by decide)) q94a q94c (g := (mkF m 38 #[.val (.int p1), .val (.int (0 : Int32)), .val (.ref s_Move_FIRST_CHILD), .val (.int (frm2 s_Move_FIRST_CHILD s_Move_CONVERSE_FIRST_CHILD s_Move_CONVERSE_NEXT_SIBLING s_Move_TO_DOCUMENT)), .val (.ref s_Modality_FIRST_CHILD), .unset, .val (.ref t0)] [(.ref t0)])) rfl (by rw [hml]; rfl) (Steps.refl _) (argsL := []) (rest := []) (lenOf pd_0 rfl) rfl (by show 2 * 0 + _ ≤ _; exact Nat.le_of_eq rfl) (hb hby at_38) (fun _ _ => ⟨rfl, e93, (by decide : 0 + 0 ≤ _), (by decide : 0 + 0 ≤ _)⟩)
    dsimp only [Pt.U, Pt.locs, Pt.cells, Pt.slots] at X94 l94 y94 z94 st94 hQ94
    subst l94 y94 z94
    obtain ⟨rfl, Nq94, e94⟩ := hQ94
    have N94 := Fr.app N93 Nq94
    refine own_go (A := _) (B := T94.setTop (mkF m 41 #[.val (.int p1), .val (.int (0 : Int32)), .val (.ref s_Move_FIRST_CHILD), .val (.int (frm2 s_Move_FIRST_CHILD s_Move_CONVERSE_FIRST_CHILD s_Move_CONVERSE_NEXT_SIBLING s_Move_TO_DOCUMENT)), .val (.ref s_Modality_FIRST_CHILD), .unset, .val (.ref t0)] [(.int (3 : Int32))])) (fun t k => st94.trans k) ?_
    refine own_go (A := T94.setTop (mkF m 41 #[.val (.int p1), .val (.int (0 : Int32)), .val (.ref s_Move_FIRST_CHILD), .val (.int (frm2 s_Move_FIRST_CHILD s_Move_CONVERSE_FIRST_CHILD s_Move_CONVERSE_NEXT_SIBLING s_Move_TO_DOCUMENT)), .val (.ref s_Modality_FIRST_CHILD), .unset, .val (.ref t0)] [(.int (3 : Int32))])) (B := T94.setTop (mkF m 48 #[.val (.int p1), .val (.int (0 : Int32)), .val (.ref s_Move_FIRST_CHILD), .val (.int (frm2 s_Move_FIRST_CHILD s_Move_CONVERSE_FIRST_CHILD s_Move_CONVERSE_NEXT_SIBLING s_Move_TO_DOCUMENT)), .val (.ref s_Modality_FIRST_CHILD), .unset, .val (.ref t0)] [(.int (1 : Int32)), (.ref t0)])) (fun t k => ?_) ?_
    · show Steps p.tables e below (T94.setTop (mkF m 41 #[.val (.int p1), .val (.int (0 : Int32)), .val (.ref s_Move_FIRST_CHILD), .val (.int (frm2 s_Move_FIRST_CHILD s_Move_CONVERSE_FIRST_CHILD s_Move_CONVERSE_NEXT_SIBLING s_Move_TO_DOCUMENT)), .val (.ref s_Modality_FIRST_CHILD), .unset, .val (.ref t0)] [(.int (3 : Int32))])) _
      refine XS.iconst X94.here hx rfl (hb hby at_41) ?_
      show Steps p.tables e below (T94.setTop (mkF m 42 #[.val (.int p1), .val (.int (0 : Int32)), .val (.ref s_Move_FIRST_CHILD), .val (.int (frm2 s_Move_FIRST_CHILD s_Move_CONVERSE_FIRST_CHILD s_Move_CONVERSE_NEXT_SIBLING s_Move_TO_DOCUMENT)), .val (.ref s_Modality_FIRST_CHILD), .unset, .val (.ref t0)] [(.int (1 : Int32)), (.int (3 : Int32))])) _
      refine XS.icmpNo X94.here hx rfl (hb hby at_42) rfl (tlt (by decide : ((1 : Int32) < (3 : Int32)))).2.2.2 ?_
      show Steps p.tables e below (T94.setTop (mkF m 45 #[.val (.int p1), .val (.int (0 : Int32)), .val (.ref s_Move_FIRST_CHILD), .val (.int (frm2 s_Move_FIRST_CHILD s_Move_CONVERSE_FIRST_CHILD s_Move_CONVERSE_NEXT_SIBLING s_Move_TO_DOCUMENT)), .val (.ref s_Modality_FIRST_CHILD), .unset, .val (.ref t0)] [])) _
      refine XS.aload X94.here hx rfl (hb hby at_45) rfl rfl ?_
      show Steps p.tables e below (T94.setTop (mkF m 47 #[.val (.int p1), .val (.int (0 : Int32)), .val (.ref s_Move_FIRST_CHILD), .val (.int (frm2 s_Move_FIRST_CHILD s_Move_CONVERSE_FIRST_CHILD s_Move_CONVERSE_NEXT_SIBLING s_Move_TO_DOCUMENT)), .val (.ref s_Modality_FIRST_CHILD), .unset, .val (.ref t0)] [(.ref t0)])) _
      refine XS.iconst X94.here hx rfl (hb hby at_47) ?_
      exact k
    obtain ⟨cq96, kq96, q96a, q96b, q96c⟩ := isOf hZ e94 P28
    obtain ⟨_, _, ⟨T96, L96, k96, n96⟩, -, X96, ⟨Lc96, hQ96, l96, y96, z96⟩, st96⟩ := X94.virtualBack hx (y := (⟨"java/lang/String", "charAt", "(I)C"⟩ : MethodName)) (z := (⟨"java/lang/String", "charAt", "(I)C"⟩ : MethodName)) hown (mvT hZ (hw _ (List.mem_of_getElem? (i := 51) rfl))) (mvT hZ (hw _ (List.mem_of_getElem? (i := 52) rfl))) (notFace_of_selects (args := #[]) (mvT hZ (hw _ (List.mem_of_getElem? (i := 54) rfl)))) (mvT hZ (hw _ (List.mem_of_getElem? (i := 54) rfl))) (mvT hZ (hw _ (List.mem_of_getElem? (i := 53) rfl))) (by decide) (backOf (W := 0) (rm7_3 l Z a0 hw [] t0 cs (60 : Int32) (49 : Int32) (62 : Int32) v0 kk0 fmt h0 n0 Z0 P28 P0 P1 P30 P29 P31 hcs) hZ (hw _ (List.mem_of_getElem? (i := 55) rfl)) (hw _ (List.mem_of_getElem? (i := 39) rfl)) (by decide) (by decide)) q96a q96c (g := (mkF m 48 #[.val (.int p1), .val (.int (0 : Int32)), .val (.ref s_Move_FIRST_CHILD), .val (.int (frm2 s_Move_FIRST_CHILD s_Move_CONVERSE_FIRST_CHILD s_Move_CONVERSE_NEXT_SIBLING s_Move_TO_DOCUMENT)), .val (.ref s_Modality_FIRST_CHILD), .unset, .val (.ref t0)] [(.int (1 : Int32)), (.ref t0)])) rfl (by rw [hml]; rfl) (Steps.refl _) (argsL := [(.int (1 : Int32))]) (rest := []) (lenOf pd_9 rfl) rfl (by show 2 * 0 + _ ≤ _; exact Nat.le_of_eq rfl) (hb hby at_48) (fun _ _ => ⟨rfl, e94, (by decide : 0 + 0 ≤ _), (by decide : 0 + 0 ≤ _)⟩)
    dsimp only [Pt.U, Pt.locs, Pt.cells, Pt.slots] at X96 l96 y96 z96 st96 hQ96
    subst l96 y96 z96
    obtain ⟨rfl, Nq96, e96⟩ := hQ96
    have N96 := Fr.app N94 Nq96
    refine own_go (A := _) (B := T96.setTop (mkF m 51 #[.val (.int p1), .val (.int (0 : Int32)), .val (.ref s_Move_FIRST_CHILD), .val (.int (frm2 s_Move_FIRST_CHILD s_Move_CONVERSE_FIRST_CHILD s_Move_CONVERSE_NEXT_SIBLING s_Move_TO_DOCUMENT)), .val (.ref s_Modality_FIRST_CHILD), .unset, .val (.ref t0)] [(.int (nar .char (nar .char (((49 : Int32) &&& (255 : Int32)).toUInt32.toUInt16.toUInt32.toInt32))))])) (fun t k => st96.trans k) ?_
    refine own_go (A := T96.setTop (mkF m 51 #[.val (.int p1), .val (.int (0 : Int32)), .val (.ref s_Move_FIRST_CHILD), .val (.int (frm2 s_Move_FIRST_CHILD s_Move_CONVERSE_FIRST_CHILD s_Move_CONVERSE_NEXT_SIBLING s_Move_TO_DOCUMENT)), .val (.ref s_Modality_FIRST_CHILD), .unset, .val (.ref t0)] [(.int (nar .char (nar .char (((49 : Int32) &&& (255 : Int32)).toUInt32.toUInt16.toUInt32.toInt32))))])) (B := T96.setTop (mkF m 53 #[.val (.int p1), .val (.int (0 : Int32)), .val (.ref s_Move_FIRST_CHILD), .val (.int (frm2 s_Move_FIRST_CHILD s_Move_CONVERSE_FIRST_CHILD s_Move_CONVERSE_NEXT_SIBLING s_Move_TO_DOCUMENT)), .val (.ref s_Modality_FIRST_CHILD), .unset, .val (.ref t0)] [(.int (45 : Int32)), (.int (nar .char (nar .char (((49 : Int32) &&& (255 : Int32)).toUInt32.toUInt16.toUInt32.toInt32))))])) (fun t k => ?_) ?_
    · show Steps p.tables e below (T96.setTop (mkF m 51 #[.val (.int p1), .val (.int (0 : Int32)), .val (.ref s_Move_FIRST_CHILD), .val (.int (frm2 s_Move_FIRST_CHILD s_Move_CONVERSE_FIRST_CHILD s_Move_CONVERSE_NEXT_SIBLING s_Move_TO_DOCUMENT)), .val (.ref s_Modality_FIRST_CHILD), .unset, .val (.ref t0)] [(.int (nar .char (nar .char (((49 : Int32) &&& (255 : Int32)).toUInt32.toUInt16.toUInt32.toInt32))))])) _
      refine XS.bipush X96.here hx rfl (hb hby at_51) ?_
      exact k
    have hc53_97 : ¬ ((nar .char (nar .char (((49 : Int32) &&& (255 : Int32)).toUInt32.toUInt16.toUInt32.toInt32))) = (45 : Int32)) := by decide
    refine own_go (A := T96.setTop (mkF m 53 #[.val (.int p1), .val (.int (0 : Int32)), .val (.ref s_Move_FIRST_CHILD), .val (.int (frm2 s_Move_FIRST_CHILD s_Move_CONVERSE_FIRST_CHILD s_Move_CONVERSE_NEXT_SIBLING s_Move_TO_DOCUMENT)), .val (.ref s_Modality_FIRST_CHILD), .unset, .val (.ref t0)] [(.int (45 : Int32)), (.int (nar .char (nar .char (((49 : Int32) &&& (255 : Int32)).toUInt32.toUInt16.toUInt32.toInt32))))])) (B := T96.setTop (mkF m 81 #[.val (.int p1), .val (.int (0 : Int32)), .val (.ref s_Move_FIRST_CHILD), .val (.int (frm2 s_Move_FIRST_CHILD s_Move_CONVERSE_FIRST_CHILD s_Move_CONVERSE_NEXT_SIBLING s_Move_TO_DOCUMENT)), .val (.ref s_Modality_FIRST_CHILD), .val (.int (0 : Int32)), .val (.ref t0)] [(.ref s_Move_FIRST_CHILD)])) (fun t k => ?_) ?_
    · show Steps p.tables e below (T96.setTop (mkF m 53 #[.val (.int p1), .val (.int (0 : Int32)), .val (.ref s_Move_FIRST_CHILD), .val (.int (frm2 s_Move_FIRST_CHILD s_Move_CONVERSE_FIRST_CHILD s_Move_CONVERSE_NEXT_SIBLING s_Move_TO_DOCUMENT)), .val (.ref s_Modality_FIRST_CHILD), .unset, .val (.ref t0)] [(.int (45 : Int32)), (.int (nar .char (nar .char (((49 : Int32) &&& (255 : Int32)).toUInt32.toUInt16.toUInt32.toInt32))))])) _
      refine XS.icmpYes X96.here hx rfl (pc0 := 53) (pc' := 60) rfl (hb hby at_53) rfl (feq hc53_97).2 (by decide) (by decide) ?_
      show Steps p.tables e below (T96.setTop (mkF m 60 #[.val (.int p1), .val (.int (0 : Int32)), .val (.ref s_Move_FIRST_CHILD), .val (.int (frm2 s_Move_FIRST_CHILD s_Move_CONVERSE_FIRST_CHILD s_Move_CONVERSE_NEXT_SIBLING s_Move_TO_DOCUMENT)), .val (.ref s_Modality_FIRST_CHILD), .unset, .val (.ref t0)] [])) _
      refine XS.iconst X96.here hx rfl (hb hby at_60) ?_
      show Steps p.tables e below (T96.setTop (mkF m 61 #[.val (.int p1), .val (.int (0 : Int32)), .val (.ref s_Move_FIRST_CHILD), .val (.int (frm2 s_Move_FIRST_CHILD s_Move_CONVERSE_FIRST_CHILD s_Move_CONVERSE_NEXT_SIBLING s_Move_TO_DOCUMENT)), .val (.ref s_Modality_FIRST_CHILD), .unset, .val (.ref t0)] [(.int (0 : Int32))])) _
      refine XS.istore X96.here hx rfl (hb hby at_61) rfl (l' := #[.val (.int p1), .val (.int (0 : Int32)), .val (.ref s_Move_FIRST_CHILD), .val (.int (frm2 s_Move_FIRST_CHILD s_Move_CONVERSE_FIRST_CHILD s_Move_CONVERSE_NEXT_SIBLING s_Move_TO_DOCUMENT)), .val (.ref s_Modality_FIRST_CHILD), .val (.int (0 : Int32)), .val (.ref t0)]) rfl ?_
      show Steps p.tables e below (T96.setTop (mkF m 63 #[.val (.int p1), .val (.int (0 : Int32)), .val (.ref s_Move_FIRST_CHILD), .val (.int (frm2 s_Move_FIRST_CHILD s_Move_CONVERSE_FIRST_CHILD s_Move_CONVERSE_NEXT_SIBLING s_Move_TO_DOCUMENT)), .val (.ref s_Modality_FIRST_CHILD), .val (.int (0 : Int32)), .val (.ref t0)] [])) _
      refine XS.goto X96.here hx rfl (pc0 := 63) (pc' := 80) rfl (hb hby at_63) (by decide) (by decide) ?_
      show Steps p.tables e below (T96.setTop (mkF m 80 #[.val (.int p1), .val (.int (0 : Int32)), .val (.ref s_Move_FIRST_CHILD), .val (.int (frm2 s_Move_FIRST_CHILD s_Move_CONVERSE_FIRST_CHILD s_Move_CONVERSE_NEXT_SIBLING s_Move_TO_DOCUMENT)), .val (.ref s_Modality_FIRST_CHILD), .val (.int (0 : Int32)), .val (.ref t0)] [])) _
      refine XS.aloadN X96.here hx rfl (hb hby at_80) rfl rfl ?_
      exact k
    obtain ⟨cq98, kq98, q98a, q98b, q98c⟩ := isOf hZ e96 P3
    obtain ⟨_, _, ⟨T98, L98, k98, n98⟩, -, X98, ⟨Lc98, hQ98, l98, y98, z98⟩, st98⟩ := X96.virtualBack hx (y := (⟨"com/example/decider/decider/library/xpath/Move", "inverse", "()Lcom/example/decider/decider/library/xpath/Move;"⟩ : MethodName)) (z := (⟨"com/example/decider/decider/library/xpath/Move", "inverse", "()Lcom/example/decider/decider/library/xpath/Move;"⟩ : MethodName)) hown (mvT hZ (hw _ (List.mem_of_getElem? (i := 73) rfl))) (mvT hZ (hw _ (List.mem_of_getElem? (i := 74) rfl))) (notFace_of_selects (args := #[]) (mvT hZ (hw _ (List.mem_of_getElem? (i := 76) rfl)))) (mvT hZ (hw _ (List.mem_of_getElem? (i := 76) rfl))) (mvT hZ (hw _ (List.mem_of_getElem? (i := 75) rfl))) (by decide) (backOf (W := 0) (rm12_0 l Z a0 hw [] s_Move_FIRST_CHILD s_Move_CONVERSE_FIRST_CHILD h0 n0 Z0 P3 P10 P4) hZ (hw _ (List.mem_of_getElem? (i := 77) rfl)) (hw _ (List.mem_of_getElem? (i := 6) rfl)) (by decide) (by decide)) q98a q98c (g := (mkF m 81 #[.val (.int p1), .val (.int (0 : Int32)), .val (.ref s_Move_FIRST_CHILD), .val (.int (frm2 s_Move_FIRST_CHILD s_Move_CONVERSE_FIRST_CHILD s_Move_CONVERSE_NEXT_SIBLING s_Move_TO_DOCUMENT)), .val (.ref s_Modality_FIRST_CHILD), .val (.int (0 : Int32)), .val (.ref t0)] [(.ref s_Move_FIRST_CHILD)])) rfl (by rw [hml]; rfl) (Steps.refl _) (argsL := []) (rest := []) (lenOf pd_10 rfl) rfl (by show 2 * 0 + _ ≤ _; exact Nat.le_of_eq rfl) (hb hby at_81) (fun _ _ => ⟨rfl, e96, (by decide : 0 + 0 ≤ _), (by decide : 0 + 0 ≤ _)⟩)
    dsimp only [Pt.U, Pt.locs, Pt.cells, Pt.slots] at X98 l98 y98 z98 st98 hQ98
    subst l98 y98 z98
    obtain ⟨rfl, Nq98, e98⟩ := hQ98
    have N98 := Fr.app N96 Nq98
    refine own_go (A := _) (B := T98.setTop (mkF m 84 #[.val (.int p1), .val (.int (0 : Int32)), .val (.ref s_Move_FIRST_CHILD), .val (.int (frm2 s_Move_FIRST_CHILD s_Move_CONVERSE_FIRST_CHILD s_Move_CONVERSE_NEXT_SIBLING s_Move_TO_DOCUMENT)), .val (.ref s_Modality_FIRST_CHILD), .val (.int (0 : Int32)), .val (.ref t0)] [(.ref s_Move_CONVERSE_FIRST_CHILD)])) (fun t k => st98.trans k) ?_
    obtain ⟨cq99, kq99, q99a, q99b, q99c⟩ := isOf hZ e98 P11
    obtain ⟨_, _, ⟨T99, L99, k99, n99⟩, -, X99, ⟨Lc99, hQ99, l99, y99, z99⟩, st99⟩ := X98.virtualBack hx (y := (⟨"com/example/decider/decider/library/xpath/Move", "upward", "()Z"⟩ : MethodName)) (z := (⟨"com/example/decider/decider/library/xpath/Move", "upward", "()Z"⟩ : MethodName)) hown (mvT hZ (hw _ (List.mem_of_getElem? (i := 8) rfl))) (mvT hZ (hw _ (List.mem_of_getElem? (i := 9) rfl))) (notFace_of_selects (args := #[]) (mvT hZ (hw _ (List.mem_of_getElem? (i := 11) rfl)))) (mvT hZ (hw _ (List.mem_of_getElem? (i := 11) rfl))) (mvT hZ (hw _ (List.mem_of_getElem? (i := 10) rfl))) (by decide) (backOf (W := 0) (rm2 l Z a0 hw [] s_Move_CONVERSE_FIRST_CHILD s_Move_CONVERSE_FIRST_CHILD s_Move_CONVERSE_NEXT_SIBLING s_Move_TO_DOCUMENT h0 n0 Z0 P10 P14 P18) hZ (hw _ (List.mem_of_getElem? (i := 12) rfl)) (hw _ (List.mem_of_getElem? (i := 6) rfl)) (by decide) (by decide)) q99a q99c (g := (mkF m 84 #[.val (.int p1), .val (.int (0 : Int32)), .val (.ref s_Move_FIRST_CHILD), .val (.int (frm2 s_Move_FIRST_CHILD s_Move_CONVERSE_FIRST_CHILD s_Move_CONVERSE_NEXT_SIBLING s_Move_TO_DOCUMENT)), .val (.ref s_Modality_FIRST_CHILD), .val (.int (0 : Int32)), .val (.ref t0)] [(.ref s_Move_CONVERSE_FIRST_CHILD)])) rfl (by rw [hml]; rfl) (Steps.refl _) (argsL := []) (rest := []) (lenOf pd_4 rfl) rfl (by show 2 * 0 + _ ≤ _; exact Nat.le_of_eq rfl) (hb hby at_84) (fun _ _ => ⟨rfl, e98, (by decide : 0 + 0 ≤ _), (by decide : 0 + 0 ≤ _)⟩)
    dsimp only [Pt.U, Pt.locs, Pt.cells, Pt.slots] at X99 l99 y99 z99 st99 hQ99
    subst l99 y99 z99
    obtain ⟨rfl, Nq99, e99⟩ := hQ99
    have N99 := Fr.app N98 Nq99
    refine own_go (A := _) (B := T99.setTop (mkF m 87 #[.val (.int p1), .val (.int (0 : Int32)), .val (.ref s_Move_FIRST_CHILD), .val (.int (frm2 s_Move_FIRST_CHILD s_Move_CONVERSE_FIRST_CHILD s_Move_CONVERSE_NEXT_SIBLING s_Move_TO_DOCUMENT)), .val (.ref s_Modality_FIRST_CHILD), .val (.int (0 : Int32)), .val (.ref t0)] [(.int (frm2 s_Move_CONVERSE_FIRST_CHILD s_Move_CONVERSE_FIRST_CHILD s_Move_CONVERSE_NEXT_SIBLING s_Move_TO_DOCUMENT))])) (fun t k => st99.trans k) ?_
    refine own_go (A := T99.setTop (mkF m 87 #[.val (.int p1), .val (.int (0 : Int32)), .val (.ref s_Move_FIRST_CHILD), .val (.int (frm2 s_Move_FIRST_CHILD s_Move_CONVERSE_FIRST_CHILD s_Move_CONVERSE_NEXT_SIBLING s_Move_TO_DOCUMENT)), .val (.ref s_Modality_FIRST_CHILD), .val (.int (0 : Int32)), .val (.ref t0)] [(.int (frm2 s_Move_CONVERSE_FIRST_CHILD s_Move_CONVERSE_FIRST_CHILD s_Move_CONVERSE_NEXT_SIBLING s_Move_TO_DOCUMENT))])) (B := T99.setTop (mkF m 92 #[.val (.int p1), .val (.int (0 : Int32)), .val (.ref s_Move_FIRST_CHILD), .val (.int (frm2 s_Move_FIRST_CHILD s_Move_CONVERSE_FIRST_CHILD s_Move_CONVERSE_NEXT_SIBLING s_Move_TO_DOCUMENT)), .val (.ref s_Modality_FIRST_CHILD), .val (.int (0 : Int32)), .val (.int (frm2 s_Move_CONVERSE_FIRST_CHILD s_Move_CONVERSE_FIRST_CHILD s_Move_CONVERSE_NEXT_SIBLING s_Move_TO_DOCUMENT))] [(.int (0 : Int32)), (.int (frm2 s_Move_FIRST_CHILD s_Move_CONVERSE_FIRST_CHILD s_Move_CONVERSE_NEXT_SIBLING s_Move_TO_DOCUMENT))])) (fun t k => ?_) ?_
    · show Steps p.tables e below (T99.setTop (mkF m 87 #[.val (.int p1), .val (.int (0 : Int32)), .val (.ref s_Move_FIRST_CHILD), .val (.int (frm2 s_Move_FIRST_CHILD s_Move_CONVERSE_FIRST_CHILD s_Move_CONVERSE_NEXT_SIBLING s_Move_TO_DOCUMENT)), .val (.ref s_Modality_FIRST_CHILD), .val (.int (0 : Int32)), .val (.ref t0)] [(.int (frm2 s_Move_CONVERSE_FIRST_CHILD s_Move_CONVERSE_FIRST_CHILD s_Move_CONVERSE_NEXT_SIBLING s_Move_TO_DOCUMENT))])) _
      refine XS.istore X99.here hx rfl (hb hby at_87) rfl (l' := #[.val (.int p1), .val (.int (0 : Int32)), .val (.ref s_Move_FIRST_CHILD), .val (.int (frm2 s_Move_FIRST_CHILD s_Move_CONVERSE_FIRST_CHILD s_Move_CONVERSE_NEXT_SIBLING s_Move_TO_DOCUMENT)), .val (.ref s_Modality_FIRST_CHILD), .val (.int (0 : Int32)), .val (.int (frm2 s_Move_CONVERSE_FIRST_CHILD s_Move_CONVERSE_FIRST_CHILD s_Move_CONVERSE_NEXT_SIBLING s_Move_TO_DOCUMENT))]) rfl ?_
      show Steps p.tables e below (T99.setTop (mkF m 89 #[.val (.int p1), .val (.int (0 : Int32)), .val (.ref s_Move_FIRST_CHILD), .val (.int (frm2 s_Move_FIRST_CHILD s_Move_CONVERSE_FIRST_CHILD s_Move_CONVERSE_NEXT_SIBLING s_Move_TO_DOCUMENT)), .val (.ref s_Modality_FIRST_CHILD), .val (.int (0 : Int32)), .val (.int (frm2 s_Move_CONVERSE_FIRST_CHILD s_Move_CONVERSE_FIRST_CHILD s_Move_CONVERSE_NEXT_SIBLING s_Move_TO_DOCUMENT))] [])) _
      refine XS.iloadN X99.here hx rfl (hb hby at_89) rfl ?_
      show Steps p.tables e below (T99.setTop (mkF m 90 #[.val (.int p1), .val (.int (0 : Int32)), .val (.ref s_Move_FIRST_CHILD), .val (.int (frm2 s_Move_FIRST_CHILD s_Move_CONVERSE_FIRST_CHILD s_Move_CONVERSE_NEXT_SIBLING s_Move_TO_DOCUMENT)), .val (.ref s_Modality_FIRST_CHILD), .val (.int (0 : Int32)), .val (.int (frm2 s_Move_CONVERSE_FIRST_CHILD s_Move_CONVERSE_FIRST_CHILD s_Move_CONVERSE_NEXT_SIBLING s_Move_TO_DOCUMENT))] [(.int (frm2 s_Move_FIRST_CHILD s_Move_CONVERSE_FIRST_CHILD s_Move_CONVERSE_NEXT_SIBLING s_Move_TO_DOCUMENT))])) _
      refine XS.iload X99.here hx rfl (hb hby at_90) rfl ?_
      exact k
    have hc92_100 : ((frm2 s_Move_FIRST_CHILD s_Move_CONVERSE_FIRST_CHILD s_Move_CONVERSE_NEXT_SIBLING s_Move_TO_DOCUMENT) = (0 : Int32)) := by simp [frm2, ne_s_Move_FIRST_CHILD_s_Move_CONVERSE_FIRST_CHILD, ne_s_Move_FIRST_CHILD_s_Move_CONVERSE_NEXT_SIBLING, ne_s_Move_FIRST_CHILD_s_Move_TO_DOCUMENT]
    refine own_go (A := T99.setTop (mkF m 92 #[.val (.int p1), .val (.int (0 : Int32)), .val (.ref s_Move_FIRST_CHILD), .val (.int (frm2 s_Move_FIRST_CHILD s_Move_CONVERSE_FIRST_CHILD s_Move_CONVERSE_NEXT_SIBLING s_Move_TO_DOCUMENT)), .val (.ref s_Modality_FIRST_CHILD), .val (.int (0 : Int32)), .val (.int (frm2 s_Move_CONVERSE_FIRST_CHILD s_Move_CONVERSE_FIRST_CHILD s_Move_CONVERSE_NEXT_SIBLING s_Move_TO_DOCUMENT))] [(.int (0 : Int32)), (.int (frm2 s_Move_FIRST_CHILD s_Move_CONVERSE_FIRST_CHILD s_Move_CONVERSE_NEXT_SIBLING s_Move_TO_DOCUMENT))])) (B := T99.setTop (mkF m 98 #[.val (.int p1), .val (.int (0 : Int32)), .val (.ref s_Move_FIRST_CHILD), .val (.int (frm2 s_Move_FIRST_CHILD s_Move_CONVERSE_FIRST_CHILD s_Move_CONVERSE_NEXT_SIBLING s_Move_TO_DOCUMENT)), .val (.ref s_Modality_FIRST_CHILD), .val (.int (0 : Int32)), .val (.int (frm2 s_Move_CONVERSE_FIRST_CHILD s_Move_CONVERSE_FIRST_CHILD s_Move_CONVERSE_NEXT_SIBLING s_Move_TO_DOCUMENT))] [(.int (frm2 s_Move_CONVERSE_FIRST_CHILD s_Move_CONVERSE_FIRST_CHILD s_Move_CONVERSE_NEXT_SIBLING s_Move_TO_DOCUMENT)), (.int (frm2 s_Move_FIRST_CHILD s_Move_CONVERSE_FIRST_CHILD s_Move_CONVERSE_NEXT_SIBLING s_Move_TO_DOCUMENT))])) (fun t k => ?_) ?_
    · show Steps p.tables e below (T99.setTop (mkF m 92 #[.val (.int p1), .val (.int (0 : Int32)), .val (.ref s_Move_FIRST_CHILD), .val (.int (frm2 s_Move_FIRST_CHILD s_Move_CONVERSE_FIRST_CHILD s_Move_CONVERSE_NEXT_SIBLING s_Move_TO_DOCUMENT)), .val (.ref s_Modality_FIRST_CHILD), .val (.int (0 : Int32)), .val (.int (frm2 s_Move_CONVERSE_FIRST_CHILD s_Move_CONVERSE_FIRST_CHILD s_Move_CONVERSE_NEXT_SIBLING s_Move_TO_DOCUMENT))] [(.int (0 : Int32)), (.int (frm2 s_Move_FIRST_CHILD s_Move_CONVERSE_FIRST_CHILD s_Move_CONVERSE_NEXT_SIBLING s_Move_TO_DOCUMENT))])) _
      refine XS.icmpNo X99.here hx rfl (hb hby at_92) rfl (teq hc92_100).2 ?_
      show Steps p.tables e below (T99.setTop (mkF m 95 #[.val (.int p1), .val (.int (0 : Int32)), .val (.ref s_Move_FIRST_CHILD), .val (.int (frm2 s_Move_FIRST_CHILD s_Move_CONVERSE_FIRST_CHILD s_Move_CONVERSE_NEXT_SIBLING s_Move_TO_DOCUMENT)), .val (.ref s_Modality_FIRST_CHILD), .val (.int (0 : Int32)), .val (.int (frm2 s_Move_CONVERSE_FIRST_CHILD s_Move_CONVERSE_FIRST_CHILD s_Move_CONVERSE_NEXT_SIBLING s_Move_TO_DOCUMENT))] [])) _
      refine XS.iloadN X99.here hx rfl (hb hby at_95) rfl ?_
      show Steps p.tables e below (T99.setTop (mkF m 96 #[.val (.int p1), .val (.int (0 : Int32)), .val (.ref s_Move_FIRST_CHILD), .val (.int (frm2 s_Move_FIRST_CHILD s_Move_CONVERSE_FIRST_CHILD s_Move_CONVERSE_NEXT_SIBLING s_Move_TO_DOCUMENT)), .val (.ref s_Modality_FIRST_CHILD), .val (.int (0 : Int32)), .val (.int (frm2 s_Move_CONVERSE_FIRST_CHILD s_Move_CONVERSE_FIRST_CHILD s_Move_CONVERSE_NEXT_SIBLING s_Move_TO_DOCUMENT))] [(.int (frm2 s_Move_FIRST_CHILD s_Move_CONVERSE_FIRST_CHILD s_Move_CONVERSE_NEXT_SIBLING s_Move_TO_DOCUMENT))])) _
      refine XS.iload X99.here hx rfl (hb hby at_96) rfl ?_
      exact k
    have hc98_101 : ¬ ((frm2 s_Move_FIRST_CHILD s_Move_CONVERSE_FIRST_CHILD s_Move_CONVERSE_NEXT_SIBLING s_Move_TO_DOCUMENT) = (frm2 s_Move_CONVERSE_FIRST_CHILD s_Move_CONVERSE_FIRST_CHILD s_Move_CONVERSE_NEXT_SIBLING s_Move_TO_DOCUMENT)) := by simp [frm2, ne_s_Move_FIRST_CHILD_s_Move_CONVERSE_FIRST_CHILD, ne_s_Move_FIRST_CHILD_s_Move_CONVERSE_NEXT_SIBLING, ne_s_Move_FIRST_CHILD_s_Move_TO_DOCUMENT]
    refine own_go (A := T99.setTop (mkF m 98 #[.val (.int p1), .val (.int (0 : Int32)), .val (.ref s_Move_FIRST_CHILD), .val (.int (frm2 s_Move_FIRST_CHILD s_Move_CONVERSE_FIRST_CHILD s_Move_CONVERSE_NEXT_SIBLING s_Move_TO_DOCUMENT)), .val (.ref s_Modality_FIRST_CHILD), .val (.int (0 : Int32)), .val (.int (frm2 s_Move_CONVERSE_FIRST_CHILD s_Move_CONVERSE_FIRST_CHILD s_Move_CONVERSE_NEXT_SIBLING s_Move_TO_DOCUMENT))] [(.int (frm2 s_Move_CONVERSE_FIRST_CHILD s_Move_CONVERSE_FIRST_CHILD s_Move_CONVERSE_NEXT_SIBLING s_Move_TO_DOCUMENT)), (.int (frm2 s_Move_FIRST_CHILD s_Move_CONVERSE_FIRST_CHILD s_Move_CONVERSE_NEXT_SIBLING s_Move_TO_DOCUMENT))])) (B := T99.setTop (mkF m 106 #[.val (.int p1), .val (.int (0 : Int32)), .val (.ref s_Move_FIRST_CHILD), .val (.int (frm2 s_Move_FIRST_CHILD s_Move_CONVERSE_FIRST_CHILD s_Move_CONVERSE_NEXT_SIBLING s_Move_TO_DOCUMENT)), .val (.ref s_Modality_FIRST_CHILD), .val (.int (0 : Int32)), .val (.int (frm2 s_Move_CONVERSE_FIRST_CHILD s_Move_CONVERSE_FIRST_CHILD s_Move_CONVERSE_NEXT_SIBLING s_Move_TO_DOCUMENT))] [(.int (1 : Int32))])) (fun t k => ?_) ?_
    · show Steps p.tables e below (T99.setTop (mkF m 98 #[.val (.int p1), .val (.int (0 : Int32)), .val (.ref s_Move_FIRST_CHILD), .val (.int (frm2 s_Move_FIRST_CHILD s_Move_CONVERSE_FIRST_CHILD s_Move_CONVERSE_NEXT_SIBLING s_Move_TO_DOCUMENT)), .val (.ref s_Modality_FIRST_CHILD), .val (.int (0 : Int32)), .val (.int (frm2 s_Move_CONVERSE_FIRST_CHILD s_Move_CONVERSE_FIRST_CHILD s_Move_CONVERSE_NEXT_SIBLING s_Move_TO_DOCUMENT))] [(.int (frm2 s_Move_CONVERSE_FIRST_CHILD s_Move_CONVERSE_FIRST_CHILD s_Move_CONVERSE_NEXT_SIBLING s_Move_TO_DOCUMENT)), (.int (frm2 s_Move_FIRST_CHILD s_Move_CONVERSE_FIRST_CHILD s_Move_CONVERSE_NEXT_SIBLING s_Move_TO_DOCUMENT))])) _
      refine XS.icmpNo X99.here hx rfl (hb hby at_98) rfl (feq hc98_101).1 ?_
      show Steps p.tables e below (T99.setTop (mkF m 101 #[.val (.int p1), .val (.int (0 : Int32)), .val (.ref s_Move_FIRST_CHILD), .val (.int (frm2 s_Move_FIRST_CHILD s_Move_CONVERSE_FIRST_CHILD s_Move_CONVERSE_NEXT_SIBLING s_Move_TO_DOCUMENT)), .val (.ref s_Modality_FIRST_CHILD), .val (.int (0 : Int32)), .val (.int (frm2 s_Move_CONVERSE_FIRST_CHILD s_Move_CONVERSE_FIRST_CHILD s_Move_CONVERSE_NEXT_SIBLING s_Move_TO_DOCUMENT))] [])) _
      refine XS.iconst X99.here hx rfl (hb hby at_101) ?_
      show Steps p.tables e below (T99.setTop (mkF m 102 #[.val (.int p1), .val (.int (0 : Int32)), .val (.ref s_Move_FIRST_CHILD), .val (.int (frm2 s_Move_FIRST_CHILD s_Move_CONVERSE_FIRST_CHILD s_Move_CONVERSE_NEXT_SIBLING s_Move_TO_DOCUMENT)), .val (.ref s_Modality_FIRST_CHILD), .val (.int (0 : Int32)), .val (.int (frm2 s_Move_CONVERSE_FIRST_CHILD s_Move_CONVERSE_FIRST_CHILD s_Move_CONVERSE_NEXT_SIBLING s_Move_TO_DOCUMENT))] [(.int (1 : Int32))])) _
      refine XS.goto X99.here hx rfl (pc0 := 102) (pc' := 106) rfl (hb hby at_102) (by decide) (by decide) ?_
      exact k
    obtain ⟨fs, hr, hrun, hended, hW, hsame⟩ := X99.leave (v := some (.int (1 : Int32))) (fun h => by rw [Bd.returns] at h; cases h)
    refine ⟨_, _, ?_, hrun, hended, _, _, rfl, ?_, ⟨_, rfl⟩, hW, hsame.mono (by decide) (by decide)⟩
    · show Steps p.tables e below (T99.setTop (mkF m 106 #[.val (.int p1), .val (.int (0 : Int32)), .val (.ref s_Move_FIRST_CHILD), .val (.int (frm2 s_Move_FIRST_CHILD s_Move_CONVERSE_FIRST_CHILD s_Move_CONVERSE_NEXT_SIBLING s_Move_TO_DOCUMENT)), .val (.ref s_Modality_FIRST_CHILD), .val (.int (0 : Int32)), .val (.int (frm2 s_Move_CONVERSE_FIRST_CHILD s_Move_CONVERSE_FIRST_CHILD s_Move_CONVERSE_NEXT_SIBLING s_Move_TO_DOCUMENT))] [(.int (1 : Int32))])) _
      exact retN X99 hx (t := .boolean) Bd.returns (by simp) (hb hby at_106) hr
    · show Qrm0 Z p1 cs fmt s_Move_FIRST_CHILD s_Move_NEXT_SIBLING s_Move_CONVERSE_FIRST_CHILD s_Move_CONVERSE_NEXT_SIBLING s_Move_TO_DOCUMENT s_Move_FROM_DOCUMENT s_Modality_FIRST_CHILD t0 v0 kk0 s_Modality_NEXT_SIBLING t1 v1 kk1 s_Modality_CONVERSE_FIRST_CHILD t2 v2 kk2 s_Modality_CONVERSE_NEXT_SIBLING t3 v3 kk3 h0 n0 _ T99.heap _
      rw [e99]
      exact ⟨rfl, N99⟩
  · rw [hk89]
    refine own_go (A := s₁.setTop (mkF m 7 #[.val (.int p1), .unset, .unset, .unset, .unset, .unset, .unset] [(.int (1 : Int32))])) (B := s₁.setTop (mkF m 9 #[.val (.int p1), .val (.int (1 : Int32)), .unset, .unset, .unset, .unset, .unset] [(.int (1 : Int32))])) (fun t k => ?_) ?_
    · show Steps p.tables e below (s₁.setTop (mkF m 7 #[.val (.int p1), .unset, .unset, .unset, .unset, .unset, .unset] [(.int (1 : Int32))])) _
      refine XS.istoreN X0.here hx rfl (hb hby at_7) rfl (l' := #[.val (.int p1), .val (.int (1 : Int32)), .unset, .unset, .unset, .unset, .unset]) rfl ?_
      show Steps p.tables e below (s₁.setTop (mkF m 8 #[.val (.int p1), .val (.int (1 : Int32)), .unset, .unset, .unset, .unset, .unset] [])) _
      refine XS.iloadN X0.here hx rfl (hb hby at_8) rfl ?_
      exact k
    obtain ⟨_, _, ⟨T102, L102, k102, n102⟩, -, X102, ⟨Lc102, hQ102, l102, y102, z102⟩, st102⟩ := Jvm.LawKit.callS X0 hx (y := (⟨"com/example/decider/decider/library/xpath/MoveUpwardPinLaw", "pick", "(I)Lcom/example/decider/decider/library/xpath/Move;"⟩ : MethodName)) hown (mvT hZ (hw _ (List.mem_of_getElem? (i := 1) rfl))) (mvT hZ (hw _ (List.mem_of_getElem? (i := 2) rfl))) (mvT hZ (hw _ (List.mem_of_getElem? (i := 3) rfl))) (mvT hZ (hw _ (List.mem_of_getElem? (i := 4) rfl))) (by decide) (backOf (W := 0) (rm1_1 l Z a0 hw [] s_Move_NEXT_SIBLING h0 n0 Z0 P6) hZ (hw _ (List.mem_of_getElem? (i := 4) rfl)) (hw _ (List.mem_of_getElem? (i := 3) rfl)) (by decide) (by decide)) (g := (mkF m 9 #[.val (.int p1), .val (.int (1 : Int32)), .unset, .unset, .unset, .unset, .unset] [(.int (1 : Int32))])) rfl (by rw [hml]; rfl) (argsL := [(.int (1 : Int32))]) (rest := []) (lenOf pd_6 rfl) rfl (by show 2 * 0 + _ ≤ _; exact Nat.le_of_eq rfl) (hb hby at_9) (fun _ _ => ⟨rfl, e0, (by decide : 0 + 0 ≤ _), (by decide : 0 + 0 ≤ _)⟩)
    dsimp only [Pt.U, Pt.locs, Pt.cells, Pt.slots] at X102 l102 y102 z102 st102 hQ102
    subst l102 y102 z102
    obtain ⟨rfl, Nq102, e102⟩ := hQ102
    have N102 := Fr.app N0 Nq102
    refine own_go (A := _) (B := T102.setTop (mkF m 12 #[.val (.int p1), .val (.int (1 : Int32)), .unset, .unset, .unset, .unset, .unset] [(.ref s_Move_NEXT_SIBLING)])) st102 ?_
    refine own_go (A := T102.setTop (mkF m 12 #[.val (.int p1), .val (.int (1 : Int32)), .unset, .unset, .unset, .unset, .unset] [(.ref s_Move_NEXT_SIBLING)])) (B := T102.setTop (mkF m 14 #[.val (.int p1), .val (.int (1 : Int32)), .val (.ref s_Move_NEXT_SIBLING), .unset, .unset, .unset, .unset] [(.ref s_Move_NEXT_SIBLING)])) (fun t k => ?_) ?_
    · show Steps p.tables e below (T102.setTop (mkF m 12 #[.val (.int p1), .val (.int (1 : Int32)), .unset, .unset, .unset, .unset, .unset] [(.ref s_Move_NEXT_SIBLING)])) _
      refine XS.astoreN X102.here hx rfl (hb hby at_12) rfl rfl (l' := #[.val (.int p1), .val (.int (1 : Int32)), .val (.ref s_Move_NEXT_SIBLING), .unset, .unset, .unset, .unset]) rfl ?_
      show Steps p.tables e below (T102.setTop (mkF m 13 #[.val (.int p1), .val (.int (1 : Int32)), .val (.ref s_Move_NEXT_SIBLING), .unset, .unset, .unset, .unset] [])) _
      refine XS.aloadN X102.here hx rfl (hb hby at_13) rfl rfl ?_
      exact k
    obtain ⟨cq103, kq103, q103a, q103b, q103c⟩ := isOf hZ e102 P7
    obtain ⟨_, _, ⟨T103, L103, k103, n103⟩, -, X103, ⟨Lc103, hQ103, l103, y103, z103⟩, st103⟩ := X102.virtualBack hx (y := (⟨"com/example/decider/decider/library/xpath/Move", "upward", "()Z"⟩ : MethodName)) (z := (⟨"com/example/decider/decider/library/xpath/Move", "upward", "()Z"⟩ : MethodName)) hown (mvT hZ (hw _ (List.mem_of_getElem? (i := 8) rfl))) (mvT hZ (hw _ (List.mem_of_getElem? (i := 9) rfl))) (notFace_of_selects (args := #[]) (mvT hZ (hw _ (List.mem_of_getElem? (i := 11) rfl)))) (mvT hZ (hw _ (List.mem_of_getElem? (i := 11) rfl))) (mvT hZ (hw _ (List.mem_of_getElem? (i := 10) rfl))) (by decide) (backOf (W := 0) (rm2 l Z a0 hw [] s_Move_NEXT_SIBLING s_Move_CONVERSE_FIRST_CHILD s_Move_CONVERSE_NEXT_SIBLING s_Move_TO_DOCUMENT h0 n0 Z0 P10 P14 P18) hZ (hw _ (List.mem_of_getElem? (i := 12) rfl)) (hw _ (List.mem_of_getElem? (i := 6) rfl)) (by decide) (by decide)) q103a q103c (g := (mkF m 14 #[.val (.int p1), .val (.int (1 : Int32)), .val (.ref s_Move_NEXT_SIBLING), .unset, .unset, .unset, .unset] [(.ref s_Move_NEXT_SIBLING)])) rfl (by rw [hml]; rfl) (Steps.refl _) (argsL := []) (rest := []) (lenOf pd_4 rfl) rfl (by show 2 * 0 + _ ≤ _; exact Nat.le_of_eq rfl) (hb hby at_14) (fun _ _ => ⟨rfl, e102, (by decide : 0 + 0 ≤ _), (by decide : 0 + 0 ≤ _)⟩)
    dsimp only [Pt.U, Pt.locs, Pt.cells, Pt.slots] at X103 l103 y103 z103 st103 hQ103
    subst l103 y103 z103
    obtain ⟨rfl, Nq103, e103⟩ := hQ103
    have N103 := Fr.app N102 Nq103
    refine own_go (A := _) (B := T103.setTop (mkF m 17 #[.val (.int p1), .val (.int (1 : Int32)), .val (.ref s_Move_NEXT_SIBLING), .unset, .unset, .unset, .unset] [(.int (frm2 s_Move_NEXT_SIBLING s_Move_CONVERSE_FIRST_CHILD s_Move_CONVERSE_NEXT_SIBLING s_Move_TO_DOCUMENT))])) (fun t k => st103.trans k) ?_
    refine own_go (A := T103.setTop (mkF m 17 #[.val (.int p1), .val (.int (1 : Int32)), .val (.ref s_Move_NEXT_SIBLING), .unset, .unset, .unset, .unset] [(.int (frm2 s_Move_NEXT_SIBLING s_Move_CONVERSE_FIRST_CHILD s_Move_CONVERSE_NEXT_SIBLING s_Move_TO_DOCUMENT))])) (B := T103.setTop (mkF m 19 #[.val (.int p1), .val (.int (1 : Int32)), .val (.ref s_Move_NEXT_SIBLING), .val (.int (frm2 s_Move_NEXT_SIBLING s_Move_CONVERSE_FIRST_CHILD s_Move_CONVERSE_NEXT_SIBLING s_Move_TO_DOCUMENT)), .unset, .unset, .unset] [(.ref s_Move_NEXT_SIBLING)])) (fun t k => ?_) ?_
    · show Steps p.tables e below (T103.setTop (mkF m 17 #[.val (.int p1), .val (.int (1 : Int32)), .val (.ref s_Move_NEXT_SIBLING), .unset, .unset, .unset, .unset] [(.int (frm2 s_Move_NEXT_SIBLING s_Move_CONVERSE_FIRST_CHILD s_Move_CONVERSE_NEXT_SIBLING s_Move_TO_DOCUMENT))])) _
      refine XS.istoreN X103.here hx rfl (hb hby at_17) rfl (l' := #[.val (.int p1), .val (.int (1 : Int32)), .val (.ref s_Move_NEXT_SIBLING), .val (.int (frm2 s_Move_NEXT_SIBLING s_Move_CONVERSE_FIRST_CHILD s_Move_CONVERSE_NEXT_SIBLING s_Move_TO_DOCUMENT)), .unset, .unset, .unset]) rfl ?_
      show Steps p.tables e below (T103.setTop (mkF m 18 #[.val (.int p1), .val (.int (1 : Int32)), .val (.ref s_Move_NEXT_SIBLING), .val (.int (frm2 s_Move_NEXT_SIBLING s_Move_CONVERSE_FIRST_CHILD s_Move_CONVERSE_NEXT_SIBLING s_Move_TO_DOCUMENT)), .unset, .unset, .unset] [])) _
      refine XS.aloadN X103.here hx rfl (hb hby at_18) rfl rfl ?_
      exact k
    obtain ⟨cq104, kq104, q104a, q104b, q104c⟩ := isOf hZ e103 P7
    obtain ⟨_, _, ⟨T104, L104, k104, n104⟩, -, X104, ⟨Lc104, hQ104, l104, y104, z104⟩, st104⟩ := X103.virtualBack hx (y := (⟨"com/example/decider/decider/library/xpath/Move", "modality", "()Lcom/example/decider/decider/logic/formula/Modality;"⟩ : MethodName)) (z := (⟨"com/example/decider/decider/library/xpath/Move", "modality", "()Lcom/example/decider/decider/logic/formula/Modality;"⟩ : MethodName)) hown (mvT hZ (hw _ (List.mem_of_getElem? (i := 19) rfl))) (mvT hZ (hw _ (List.mem_of_getElem? (i := 20) rfl))) (notFace_of_selects (args := #[]) (mvT hZ (hw _ (List.mem_of_getElem? (i := 22) rfl)))) (mvT hZ (hw _ (List.mem_of_getElem? (i := 22) rfl))) (mvT hZ (hw _ (List.mem_of_getElem? (i := 21) rfl))) (by decide) (backOf (W := 0) (rm3 l Z a0 hw [] s_Move_NEXT_SIBLING s_Modality_NEXT_SIBLING h0 n0 Z0 P9) hZ (hw _ (List.mem_of_getElem? (i := 23) rfl)) (hw _ (List.mem_of_getElem? (i := 6) rfl)) (by decide) (by decide)) q104a q104c (g := (mkF m 19 #[.val (.int p1), .val (.int (1 : Int32)), .val (.ref s_Move_NEXT_SIBLING), .val (.int (frm2 s_Move_NEXT_SIBLING s_Move_CONVERSE_FIRST_CHILD s_Move_CONVERSE_NEXT_SIBLING s_Move_TO_DOCUMENT)), .unset, .unset, .unset] [(.ref s_Move_NEXT_SIBLING)])) rfl (by rw [hml]; rfl) (Steps.refl _) (argsL := []) (rest := []) (lenOf pd_7 rfl) rfl (by show 2 * 0 + _ ≤ _; exact Nat.le_of_eq rfl) (hb hby at_19) (fun _ _ => ⟨rfl, e103, (by decide : 0 + 0 ≤ _), (by decide : 0 + 0 ≤ _)⟩)
    dsimp only [Pt.U, Pt.locs, Pt.cells, Pt.slots] at X104 l104 y104 z104 st104 hQ104
    subst l104 y104 z104
    obtain ⟨rfl, Nq104, e104⟩ := hQ104
    have N104 := Fr.app N103 Nq104
    refine own_go (A := _) (B := T104.setTop (mkF m 22 #[.val (.int p1), .val (.int (1 : Int32)), .val (.ref s_Move_NEXT_SIBLING), .val (.int (frm2 s_Move_NEXT_SIBLING s_Move_CONVERSE_FIRST_CHILD s_Move_CONVERSE_NEXT_SIBLING s_Move_TO_DOCUMENT)), .unset, .unset, .unset] [(.ref s_Modality_NEXT_SIBLING)])) (fun t k => st104.trans k) ?_
    refine own_go (A := T104.setTop (mkF m 22 #[.val (.int p1), .val (.int (1 : Int32)), .val (.ref s_Move_NEXT_SIBLING), .val (.int (frm2 s_Move_NEXT_SIBLING s_Move_CONVERSE_FIRST_CHILD s_Move_CONVERSE_NEXT_SIBLING s_Move_TO_DOCUMENT)), .unset, .unset, .unset] [(.ref s_Modality_NEXT_SIBLING)])) (B := T104.setTop (mkF m 31 #[.val (.int p1), .val (.int (1 : Int32)), .val (.ref s_Move_NEXT_SIBLING), .val (.int (frm2 s_Move_NEXT_SIBLING s_Move_CONVERSE_FIRST_CHILD s_Move_CONVERSE_NEXT_SIBLING s_Move_TO_DOCUMENT)), .val (.ref s_Modality_NEXT_SIBLING), .unset, .unset] [(.ref s_Modality_NEXT_SIBLING)])) (fun t k => ?_) ?_
    · show Steps p.tables e below (T104.setTop (mkF m 22 #[.val (.int p1), .val (.int (1 : Int32)), .val (.ref s_Move_NEXT_SIBLING), .val (.int (frm2 s_Move_NEXT_SIBLING s_Move_CONVERSE_FIRST_CHILD s_Move_CONVERSE_NEXT_SIBLING s_Move_TO_DOCUMENT)), .unset, .unset, .unset] [(.ref s_Modality_NEXT_SIBLING)])) _
      refine XS.astore X104.here hx rfl (hb hby at_22) rfl rfl (l' := #[.val (.int p1), .val (.int (1 : Int32)), .val (.ref s_Move_NEXT_SIBLING), .val (.int (frm2 s_Move_NEXT_SIBLING s_Move_CONVERSE_FIRST_CHILD s_Move_CONVERSE_NEXT_SIBLING s_Move_TO_DOCUMENT)), .val (.ref s_Modality_NEXT_SIBLING), .unset, .unset]) rfl ?_
      show Steps p.tables e below (T104.setTop (mkF m 24 #[.val (.int p1), .val (.int (1 : Int32)), .val (.ref s_Move_NEXT_SIBLING), .val (.int (frm2 s_Move_NEXT_SIBLING s_Move_CONVERSE_FIRST_CHILD s_Move_CONVERSE_NEXT_SIBLING s_Move_TO_DOCUMENT)), .val (.ref s_Modality_NEXT_SIBLING), .unset, .unset] [])) _
      refine XS.aload X104.here hx rfl (hb hby at_24) rfl rfl ?_
      show Steps p.tables e below (T104.setTop (mkF m 26 #[.val (.int p1), .val (.int (1 : Int32)), .val (.ref s_Move_NEXT_SIBLING), .val (.int (frm2 s_Move_NEXT_SIBLING s_Move_CONVERSE_FIRST_CHILD s_Move_CONVERSE_NEXT_SIBLING s_Move_TO_DOCUMENT)), .val (.ref s_Modality_NEXT_SIBLING), .unset, .unset] [(.ref s_Modality_NEXT_SIBLING)])) _
      refine XS.ifnullNo X104.here hx rfl (hb hby at_26) rfl ?_
      show Steps p.tables e below (T104.setTop (mkF m 29 #[.val (.int p1), .val (.int (1 : Int32)), .val (.ref s_Move_NEXT_SIBLING), .val (.int (frm2 s_Move_NEXT_SIBLING s_Move_CONVERSE_FIRST_CHILD s_Move_CONVERSE_NEXT_SIBLING s_Move_TO_DOCUMENT)), .val (.ref s_Modality_NEXT_SIBLING), .unset, .unset] [])) _
      refine XS.aload X104.here hx rfl (hb hby at_29) rfl rfl ?_
      exact k
    obtain ⟨cq105, kq105, q105a, q105b, q105c⟩ := isOf hZ e104 P32
    obtain ⟨_, _, ⟨T105, L105, k105, n105⟩, -, X105, ⟨Lc105, hQ105, l105, y105, z105⟩, st105⟩ := X104.virtualBack hx (y := (⟨"com/example/decider/decider/logic/formula/Modality", "spelling", "()Ljava/lang/String;"⟩ : MethodName)) (z := (⟨"com/example/decider/decider/logic/formula/Modality", "spelling", "()Ljava/lang/String;"⟩ : MethodName)) hown (mvT hZ (hw _ (List.mem_of_getElem? (i := 28) rfl))) (mvT hZ (hw _ (List.mem_of_getElem? (i := 29) rfl))) (notFace_of_selects (args := #[]) (mvT hZ (hw _ (List.mem_of_getElem? (i := 31) rfl)))) (mvT hZ (hw _ (List.mem_of_getElem? (i := 31) rfl))) (mvT hZ (hw _ (List.mem_of_getElem? (i := 30) rfl))) (by decide) (backOf (W := 0) (rm4 l Z a0 hw [] s_Modality_NEXT_SIBLING t1 h0 n0 Z0 P33) hZ (hw _ (List.mem_of_getElem? (i := 32) rfl)) (hw _ (List.mem_of_getElem? (i := 26) rfl)) (by decide) (by decide)) q105a q105c (g := (mkF m 31 #[.val (.int p1), .val (.int (1 : Int32)), .val (.ref s_Move_NEXT_SIBLING), .val (.int (frm2 s_Move_NEXT_SIBLING s_Move_CONVERSE_FIRST_CHILD s_Move_CONVERSE_NEXT_SIBLING s_Move_TO_DOCUMENT)), .val (.ref s_Modality_NEXT_SIBLING), .unset, .unset] [(.ref s_Modality_NEXT_SIBLING)])) rfl (by rw [hml]; rfl) (Steps.refl _) (argsL := []) (rest := []) (lenOf pd_8 rfl) rfl (by show 2 * 0 + _ ≤ _; exact Nat.le_of_eq rfl) (hb hby at_31) (fun _ _ => ⟨rfl, e104, (by decide : 0 + 0 ≤ _), (by decide : 0 + 0 ≤ _)⟩)
    dsimp only [Pt.U, Pt.locs, Pt.cells, Pt.slots] at X105 l105 y105 z105 st105 hQ105
    subst l105 y105 z105
    obtain ⟨rfl, Nq105, e105⟩ := hQ105
    have N105 := Fr.app N104 Nq105
    refine own_go (A := _) (B := T105.setTop (mkF m 34 #[.val (.int p1), .val (.int (1 : Int32)), .val (.ref s_Move_NEXT_SIBLING), .val (.int (frm2 s_Move_NEXT_SIBLING s_Move_CONVERSE_FIRST_CHILD s_Move_CONVERSE_NEXT_SIBLING s_Move_TO_DOCUMENT)), .val (.ref s_Modality_NEXT_SIBLING), .unset, .unset] [(.ref t1)])) (fun t k => st105.trans k) ?_
    refine own_go (A := T105.setTop (mkF m 34 #[.val (.int p1), .val (.int (1 : Int32)), .val (.ref s_Move_NEXT_SIBLING), .val (.int (frm2 s_Move_NEXT_SIBLING s_Move_CONVERSE_FIRST_CHILD s_Move_CONVERSE_NEXT_SIBLING s_Move_TO_DOCUMENT)), .val (.ref s_Modality_NEXT_SIBLING), .unset, .unset] [(.ref t1)])) (B := T105.setTop (mkF m 38 #[.val (.int p1), .val (.int (1 : Int32)), .val (.ref s_Move_NEXT_SIBLING), .val (.int (frm2 s_Move_NEXT_SIBLING s_Move_CONVERSE_FIRST_CHILD s_Move_CONVERSE_NEXT_SIBLING s_Move_TO_DOCUMENT)), .val (.ref s_Modality_NEXT_SIBLING), .unset, .val (.ref t1)] [(.ref t1)])) (fun t k => ?_) ?_
    · show Steps p.tables e below (T105.setTop (mkF m 34 #[.val (.int p1), .val (.int (1 : Int32)), .val (.ref s_Move_NEXT_SIBLING), .val (.int (frm2 s_Move_NEXT_SIBLING s_Move_CONVERSE_FIRST_CHILD s_Move_CONVERSE_NEXT_SIBLING s_Move_TO_DOCUMENT)), .val (.ref s_Modality_NEXT_SIBLING), .unset, .unset] [(.ref t1)])) _
      refine XS.astore X105.here hx rfl (hb hby at_34) rfl rfl (l' := #[.val (.int p1), .val (.int (1 : Int32)), .val (.ref s_Move_NEXT_SIBLING), .val (.int (frm2 s_Move_NEXT_SIBLING s_Move_CONVERSE_FIRST_CHILD s_Move_CONVERSE_NEXT_SIBLING s_Move_TO_DOCUMENT)), .val (.ref s_Modality_NEXT_SIBLING), .unset, .val (.ref t1)]) rfl ?_
      show Steps p.tables e below (T105.setTop (mkF m 36 #[.val (.int p1), .val (.int (1 : Int32)), .val (.ref s_Move_NEXT_SIBLING), .val (.int (frm2 s_Move_NEXT_SIBLING s_Move_CONVERSE_FIRST_CHILD s_Move_CONVERSE_NEXT_SIBLING s_Move_TO_DOCUMENT)), .val (.ref s_Modality_NEXT_SIBLING), .unset, .val (.ref t1)] [])) _
      refine XS.aload X105.here hx rfl (hb hby at_36) rfl rfl ?_
      exact k
    obtain ⟨cq106, kq106, q106a, q106b, q106c⟩ := isOf hZ e105 P34
    obtain ⟨_, _, ⟨T106, L106, k106, n106⟩, -, X106, ⟨Lc106, hQ106, l106, y106, z106⟩, st106⟩ := X105.virtualBack hx (y := (⟨"java/lang/String", "length", "()I"⟩ : MethodName)) (z := (⟨"java/lang/String", "length", "()I"⟩ : MethodName)) hown (mvT hZ (hw _ (List.mem_of_getElem? (i := 35) rfl))) (mvT hZ (hw _ (List.mem_of_getElem? (i := 36) rfl))) (notFace_of_selects (args := #[]) (mvT hZ (hw _ (List.mem_of_getElem? (i := 38) rfl)))) (mvT hZ (hw _ (List.mem_of_getElem? (i := 38) rfl))) (mvT hZ (hw _ (List.mem_of_getElem? (i := 37) rfl))) (by decide) (backOf (W := 0) (rm5_3 l Z a0 hw [] t1 cs (60 : Int32) (50 : Int32) (62 : Int32) v1 kk1 h0 n0 Z0 P34 P0 P36 P35 P37 hcs) hZ (hw _ (List.mem_of_getElem? (i := 40) rfl)) (hw _ (List.mem_of_getElem? (i := 39) rfl)) (by decide) (by decide)) q106a q106c (g := (mkF m 38 #[.val (.int p1), .val (.int (1 : Int32)), .val (.ref s_Move_NEXT_SIBLING), .val (.int (frm2 s_Move_NEXT_SIBLING s_Move_CONVERSE_FIRST_CHILD s_Move_CONVERSE_NEXT_SIBLING s_Move_TO_DOCUMENT)), .val (.ref s_Modality_NEXT_SIBLING), .unset, .val (.ref t1)] [(.ref t1)])) rfl (by rw [hml]; rfl) (Steps.refl _) (argsL := []) (rest := []) (lenOf pd_0 rfl) rfl (by show 2 * 0 + _ ≤ _; exact Nat.le_of_eq rfl) (hb hby at_38) (fun _ _ => ⟨rfl, e105, (by decide : 0 + 0 ≤ _), (by decide : 0 + 0 ≤ _)⟩)
    dsimp only [Pt.U, Pt.locs, Pt.cells, Pt.slots] at X106 l106 y106 z106 st106 hQ106
    subst l106 y106 z106
    obtain ⟨rfl, Nq106, e106⟩ := hQ106
    have N106 := Fr.app N105 Nq106
    refine own_go (A := _) (B := T106.setTop (mkF m 41 #[.val (.int p1), .val (.int (1 : Int32)), .val (.ref s_Move_NEXT_SIBLING), .val (.int (frm2 s_Move_NEXT_SIBLING s_Move_CONVERSE_FIRST_CHILD s_Move_CONVERSE_NEXT_SIBLING s_Move_TO_DOCUMENT)), .val (.ref s_Modality_NEXT_SIBLING), .unset, .val (.ref t1)] [(.int (3 : Int32))])) (fun t k => st106.trans k) ?_
    refine own_go (A := T106.setTop (mkF m 41 #[.val (.int p1), .val (.int (1 : Int32)), .val (.ref s_Move_NEXT_SIBLING), .val (.int (frm2 s_Move_NEXT_SIBLING s_Move_CONVERSE_FIRST_CHILD s_Move_CONVERSE_NEXT_SIBLING s_Move_TO_DOCUMENT)), .val (.ref s_Modality_NEXT_SIBLING), .unset, .val (.ref t1)] [(.int (3 : Int32))])) (B := T106.setTop (mkF m 48 #[.val (.int p1), .val (.int (1 : Int32)), .val (.ref s_Move_NEXT_SIBLING), .val (.int (frm2 s_Move_NEXT_SIBLING s_Move_CONVERSE_FIRST_CHILD s_Move_CONVERSE_NEXT_SIBLING s_Move_TO_DOCUMENT)), .val (.ref s_Modality_NEXT_SIBLING), .unset, .val (.ref t1)] [(.int (1 : Int32)), (.ref t1)])) (fun t k => ?_) ?_
    · show Steps p.tables e below (T106.setTop (mkF m 41 #[.val (.int p1), .val (.int (1 : Int32)), .val (.ref s_Move_NEXT_SIBLING), .val (.int (frm2 s_Move_NEXT_SIBLING s_Move_CONVERSE_FIRST_CHILD s_Move_CONVERSE_NEXT_SIBLING s_Move_TO_DOCUMENT)), .val (.ref s_Modality_NEXT_SIBLING), .unset, .val (.ref t1)] [(.int (3 : Int32))])) _
      refine XS.iconst X106.here hx rfl (hb hby at_41) ?_
      show Steps p.tables e below (T106.setTop (mkF m 42 #[.val (.int p1), .val (.int (1 : Int32)), .val (.ref s_Move_NEXT_SIBLING), .val (.int (frm2 s_Move_NEXT_SIBLING s_Move_CONVERSE_FIRST_CHILD s_Move_CONVERSE_NEXT_SIBLING s_Move_TO_DOCUMENT)), .val (.ref s_Modality_NEXT_SIBLING), .unset, .val (.ref t1)] [(.int (1 : Int32)), (.int (3 : Int32))])) _
      refine XS.icmpNo X106.here hx rfl (hb hby at_42) rfl (tlt (by decide : ((1 : Int32) < (3 : Int32)))).2.2.2 ?_
      show Steps p.tables e below (T106.setTop (mkF m 45 #[.val (.int p1), .val (.int (1 : Int32)), .val (.ref s_Move_NEXT_SIBLING), .val (.int (frm2 s_Move_NEXT_SIBLING s_Move_CONVERSE_FIRST_CHILD s_Move_CONVERSE_NEXT_SIBLING s_Move_TO_DOCUMENT)), .val (.ref s_Modality_NEXT_SIBLING), .unset, .val (.ref t1)] [])) _
      refine XS.aload X106.here hx rfl (hb hby at_45) rfl rfl ?_
      show Steps p.tables e below (T106.setTop (mkF m 47 #[.val (.int p1), .val (.int (1 : Int32)), .val (.ref s_Move_NEXT_SIBLING), .val (.int (frm2 s_Move_NEXT_SIBLING s_Move_CONVERSE_FIRST_CHILD s_Move_CONVERSE_NEXT_SIBLING s_Move_TO_DOCUMENT)), .val (.ref s_Modality_NEXT_SIBLING), .unset, .val (.ref t1)] [(.ref t1)])) _
      refine XS.iconst X106.here hx rfl (hb hby at_47) ?_
      exact k
    obtain ⟨cq108, kq108, q108a, q108b, q108c⟩ := isOf hZ e106 P34
    obtain ⟨_, _, ⟨T108, L108, k108, n108⟩, -, X108, ⟨Lc108, hQ108, l108, y108, z108⟩, st108⟩ := X106.virtualBack hx (y := (⟨"java/lang/String", "charAt", "(I)C"⟩ : MethodName)) (z := (⟨"java/lang/String", "charAt", "(I)C"⟩ : MethodName)) hown (mvT hZ (hw _ (List.mem_of_getElem? (i := 51) rfl))) (mvT hZ (hw _ (List.mem_of_getElem? (i := 52) rfl))) (notFace_of_selects (args := #[]) (mvT hZ (hw _ (List.mem_of_getElem? (i := 54) rfl)))) (mvT hZ (hw _ (List.mem_of_getElem? (i := 54) rfl))) (mvT hZ (hw _ (List.mem_of_getElem? (i := 53) rfl))) (by decide) (backOf (W := 0) (rm7_3 l Z a0 hw [] t1 cs (60 : Int32) (50 : Int32) (62 : Int32) v1 kk1 fmt h0 n0 Z0 P34 P0 P1 P36 P35 P37 hcs) hZ (hw _ (List.mem_of_getElem? (i := 55) rfl)) (hw _ (List.mem_of_getElem? (i := 39) rfl)) (by decide) (by decide)) q108a q108c (g := (mkF m 48 #[.val (.int p1), .val (.int (1 : Int32)), .val (.ref s_Move_NEXT_SIBLING), .val (.int (frm2 s_Move_NEXT_SIBLING s_Move_CONVERSE_FIRST_CHILD s_Move_CONVERSE_NEXT_SIBLING s_Move_TO_DOCUMENT)), .val (.ref s_Modality_NEXT_SIBLING), .unset, .val (.ref t1)] [(.int (1 : Int32)), (.ref t1)])) rfl (by rw [hml]; rfl) (Steps.refl _) (argsL := [(.int (1 : Int32))]) (rest := []) (lenOf pd_9 rfl) rfl (by show 2 * 0 + _ ≤ _; exact Nat.le_of_eq rfl) (hb hby at_48) (fun _ _ => ⟨rfl, e106, (by decide : 0 + 0 ≤ _), (by decide : 0 + 0 ≤ _)⟩)
    dsimp only [Pt.U, Pt.locs, Pt.cells, Pt.slots] at X108 l108 y108 z108 st108 hQ108
    subst l108 y108 z108
    obtain ⟨rfl, Nq108, e108⟩ := hQ108
    have N108 := Fr.app N106 Nq108
    refine own_go (A := _) (B := T108.setTop (mkF m 51 #[.val (.int p1), .val (.int (1 : Int32)), .val (.ref s_Move_NEXT_SIBLING), .val (.int (frm2 s_Move_NEXT_SIBLING s_Move_CONVERSE_FIRST_CHILD s_Move_CONVERSE_NEXT_SIBLING s_Move_TO_DOCUMENT)), .val (.ref s_Modality_NEXT_SIBLING), .unset, .val (.ref t1)] [(.int (nar .char (nar .char (((50 : Int32) &&& (255 : Int32)).toUInt32.toUInt16.toUInt32.toInt32))))])) (fun t k => st108.trans k) ?_
    refine own_go (A := T108.setTop (mkF m 51 #[.val (.int p1), .val (.int (1 : Int32)), .val (.ref s_Move_NEXT_SIBLING), .val (.int (frm2 s_Move_NEXT_SIBLING s_Move_CONVERSE_FIRST_CHILD s_Move_CONVERSE_NEXT_SIBLING s_Move_TO_DOCUMENT)), .val (.ref s_Modality_NEXT_SIBLING), .unset, .val (.ref t1)] [(.int (nar .char (nar .char (((50 : Int32) &&& (255 : Int32)).toUInt32.toUInt16.toUInt32.toInt32))))])) (B := T108.setTop (mkF m 53 #[.val (.int p1), .val (.int (1 : Int32)), .val (.ref s_Move_NEXT_SIBLING), .val (.int (frm2 s_Move_NEXT_SIBLING s_Move_CONVERSE_FIRST_CHILD s_Move_CONVERSE_NEXT_SIBLING s_Move_TO_DOCUMENT)), .val (.ref s_Modality_NEXT_SIBLING), .unset, .val (.ref t1)] [(.int (45 : Int32)), (.int (nar .char (nar .char (((50 : Int32) &&& (255 : Int32)).toUInt32.toUInt16.toUInt32.toInt32))))])) (fun t k => ?_) ?_
    · show Steps p.tables e below (T108.setTop (mkF m 51 #[.val (.int p1), .val (.int (1 : Int32)), .val (.ref s_Move_NEXT_SIBLING), .val (.int (frm2 s_Move_NEXT_SIBLING s_Move_CONVERSE_FIRST_CHILD s_Move_CONVERSE_NEXT_SIBLING s_Move_TO_DOCUMENT)), .val (.ref s_Modality_NEXT_SIBLING), .unset, .val (.ref t1)] [(.int (nar .char (nar .char (((50 : Int32) &&& (255 : Int32)).toUInt32.toUInt16.toUInt32.toInt32))))])) _
      refine XS.bipush X108.here hx rfl (hb hby at_51) ?_
      exact k
    have hc53_109 : ¬ ((nar .char (nar .char (((50 : Int32) &&& (255 : Int32)).toUInt32.toUInt16.toUInt32.toInt32))) = (45 : Int32)) := by decide
    refine own_go (A := T108.setTop (mkF m 53 #[.val (.int p1), .val (.int (1 : Int32)), .val (.ref s_Move_NEXT_SIBLING), .val (.int (frm2 s_Move_NEXT_SIBLING s_Move_CONVERSE_FIRST_CHILD s_Move_CONVERSE_NEXT_SIBLING s_Move_TO_DOCUMENT)), .val (.ref s_Modality_NEXT_SIBLING), .unset, .val (.ref t1)] [(.int (45 : Int32)), (.int (nar .char (nar .char (((50 : Int32) &&& (255 : Int32)).toUInt32.toUInt16.toUInt32.toInt32))))])) (B := T108.setTop (mkF m 81 #[.val (.int p1), .val (.int (1 : Int32)), .val (.ref s_Move_NEXT_SIBLING), .val (.int (frm2 s_Move_NEXT_SIBLING s_Move_CONVERSE_FIRST_CHILD s_Move_CONVERSE_NEXT_SIBLING s_Move_TO_DOCUMENT)), .val (.ref s_Modality_NEXT_SIBLING), .val (.int (0 : Int32)), .val (.ref t1)] [(.ref s_Move_NEXT_SIBLING)])) (fun t k => ?_) ?_
    · show Steps p.tables e below (T108.setTop (mkF m 53 #[.val (.int p1), .val (.int (1 : Int32)), .val (.ref s_Move_NEXT_SIBLING), .val (.int (frm2 s_Move_NEXT_SIBLING s_Move_CONVERSE_FIRST_CHILD s_Move_CONVERSE_NEXT_SIBLING s_Move_TO_DOCUMENT)), .val (.ref s_Modality_NEXT_SIBLING), .unset, .val (.ref t1)] [(.int (45 : Int32)), (.int (nar .char (nar .char (((50 : Int32) &&& (255 : Int32)).toUInt32.toUInt16.toUInt32.toInt32))))])) _
      refine XS.icmpYes X108.here hx rfl (pc0 := 53) (pc' := 60) rfl (hb hby at_53) rfl (feq hc53_109).2 (by decide) (by decide) ?_
      show Steps p.tables e below (T108.setTop (mkF m 60 #[.val (.int p1), .val (.int (1 : Int32)), .val (.ref s_Move_NEXT_SIBLING), .val (.int (frm2 s_Move_NEXT_SIBLING s_Move_CONVERSE_FIRST_CHILD s_Move_CONVERSE_NEXT_SIBLING s_Move_TO_DOCUMENT)), .val (.ref s_Modality_NEXT_SIBLING), .unset, .val (.ref t1)] [])) _
      refine XS.iconst X108.here hx rfl (hb hby at_60) ?_
      show Steps p.tables e below (T108.setTop (mkF m 61 #[.val (.int p1), .val (.int (1 : Int32)), .val (.ref s_Move_NEXT_SIBLING), .val (.int (frm2 s_Move_NEXT_SIBLING s_Move_CONVERSE_FIRST_CHILD s_Move_CONVERSE_NEXT_SIBLING s_Move_TO_DOCUMENT)), .val (.ref s_Modality_NEXT_SIBLING), .unset, .val (.ref t1)] [(.int (0 : Int32))])) _
      refine XS.istore X108.here hx rfl (hb hby at_61) rfl (l' := #[.val (.int p1), .val (.int (1 : Int32)), .val (.ref s_Move_NEXT_SIBLING), .val (.int (frm2 s_Move_NEXT_SIBLING s_Move_CONVERSE_FIRST_CHILD s_Move_CONVERSE_NEXT_SIBLING s_Move_TO_DOCUMENT)), .val (.ref s_Modality_NEXT_SIBLING), .val (.int (0 : Int32)), .val (.ref t1)]) rfl ?_
      show Steps p.tables e below (T108.setTop (mkF m 63 #[.val (.int p1), .val (.int (1 : Int32)), .val (.ref s_Move_NEXT_SIBLING), .val (.int (frm2 s_Move_NEXT_SIBLING s_Move_CONVERSE_FIRST_CHILD s_Move_CONVERSE_NEXT_SIBLING s_Move_TO_DOCUMENT)), .val (.ref s_Modality_NEXT_SIBLING), .val (.int (0 : Int32)), .val (.ref t1)] [])) _
      refine XS.goto X108.here hx rfl (pc0 := 63) (pc' := 80) rfl (hb hby at_63) (by decide) (by decide) ?_
      show Steps p.tables e below (T108.setTop (mkF m 80 #[.val (.int p1), .val (.int (1 : Int32)), .val (.ref s_Move_NEXT_SIBLING), .val (.int (frm2 s_Move_NEXT_SIBLING s_Move_CONVERSE_FIRST_CHILD s_Move_CONVERSE_NEXT_SIBLING s_Move_TO_DOCUMENT)), .val (.ref s_Modality_NEXT_SIBLING), .val (.int (0 : Int32)), .val (.ref t1)] [])) _
      refine XS.aloadN X108.here hx rfl (hb hby at_80) rfl rfl ?_
      exact k
    obtain ⟨cq110, kq110, q110a, q110b, q110c⟩ := isOf hZ e108 P7
    obtain ⟨_, _, ⟨T110, L110, k110, n110⟩, -, X110, ⟨Lc110, hQ110, l110, y110, z110⟩, st110⟩ := X108.virtualBack hx (y := (⟨"com/example/decider/decider/library/xpath/Move", "inverse", "()Lcom/example/decider/decider/library/xpath/Move;"⟩ : MethodName)) (z := (⟨"com/example/decider/decider/library/xpath/Move", "inverse", "()Lcom/example/decider/decider/library/xpath/Move;"⟩ : MethodName)) hown (mvT hZ (hw _ (List.mem_of_getElem? (i := 73) rfl))) (mvT hZ (hw _ (List.mem_of_getElem? (i := 74) rfl))) (notFace_of_selects (args := #[]) (mvT hZ (hw _ (List.mem_of_getElem? (i := 76) rfl)))) (mvT hZ (hw _ (List.mem_of_getElem? (i := 76) rfl))) (mvT hZ (hw _ (List.mem_of_getElem? (i := 75) rfl))) (by decide) (backOf (W := 0) (rm12_1 l Z a0 hw [] s_Move_NEXT_SIBLING s_Move_CONVERSE_NEXT_SIBLING h0 n0 Z0 P7 P14 P8) hZ (hw _ (List.mem_of_getElem? (i := 77) rfl)) (hw _ (List.mem_of_getElem? (i := 6) rfl)) (by decide) (by decide)) q110a q110c (g := (mkF m 81 #[.val (.int p1), .val (.int (1 : Int32)), .val (.ref s_Move_NEXT_SIBLING), .val (.int (frm2 s_Move_NEXT_SIBLING s_Move_CONVERSE_FIRST_CHILD s_Move_CONVERSE_NEXT_SIBLING s_Move_TO_DOCUMENT)), .val (.ref s_Modality_NEXT_SIBLING), .val (.int (0 : Int32)), .val (.ref t1)] [(.ref s_Move_NEXT_SIBLING)])) rfl (by rw [hml]; rfl) (Steps.refl _) (argsL := []) (rest := []) (lenOf pd_10 rfl) rfl (by show 2 * 0 + _ ≤ _; exact Nat.le_of_eq rfl) (hb hby at_81) (fun _ _ => ⟨rfl, e108, (by decide : 0 + 0 ≤ _), (by decide : 0 + 0 ≤ _)⟩)
    dsimp only [Pt.U, Pt.locs, Pt.cells, Pt.slots] at X110 l110 y110 z110 st110 hQ110
    subst l110 y110 z110
    obtain ⟨rfl, Nq110, e110⟩ := hQ110
    have N110 := Fr.app N108 Nq110
    refine own_go (A := _) (B := T110.setTop (mkF m 84 #[.val (.int p1), .val (.int (1 : Int32)), .val (.ref s_Move_NEXT_SIBLING), .val (.int (frm2 s_Move_NEXT_SIBLING s_Move_CONVERSE_FIRST_CHILD s_Move_CONVERSE_NEXT_SIBLING s_Move_TO_DOCUMENT)), .val (.ref s_Modality_NEXT_SIBLING), .val (.int (0 : Int32)), .val (.ref t1)] [(.ref s_Move_CONVERSE_NEXT_SIBLING)])) (fun t k => st110.trans k) ?_
    obtain ⟨cq111, kq111, q111a, q111b, q111c⟩ := isOf hZ e110 P15
    obtain ⟨_, _, ⟨T111, L111, k111, n111⟩, -, X111, ⟨Lc111, hQ111, l111, y111, z111⟩, st111⟩ := X110.virtualBack hx (y := (⟨"com/example/decider/decider/library/xpath/Move", "upward", "()Z"⟩ : MethodName)) (z := (⟨"com/example/decider/decider/library/xpath/Move", "upward", "()Z"⟩ : MethodName)) hown (mvT hZ (hw _ (List.mem_of_getElem? (i := 8) rfl))) (mvT hZ (hw _ (List.mem_of_getElem? (i := 9) rfl))) (notFace_of_selects (args := #[]) (mvT hZ (hw _ (List.mem_of_getElem? (i := 11) rfl)))) (mvT hZ (hw _ (List.mem_of_getElem? (i := 11) rfl))) (mvT hZ (hw _ (List.mem_of_getElem? (i := 10) rfl))) (by decide) (backOf (W := 0) (rm2 l Z a0 hw [] s_Move_CONVERSE_NEXT_SIBLING s_Move_CONVERSE_FIRST_CHILD s_Move_CONVERSE_NEXT_SIBLING s_Move_TO_DOCUMENT h0 n0 Z0 P10 P14 P18) hZ (hw _ (List.mem_of_getElem? (i := 12) rfl)) (hw _ (List.mem_of_getElem? (i := 6) rfl)) (by decide) (by decide)) q111a q111c (g := (mkF m 84 #[.val (.int p1), .val (.int (1 : Int32)), .val (.ref s_Move_NEXT_SIBLING), .val (.int (frm2 s_Move_NEXT_SIBLING s_Move_CONVERSE_FIRST_CHILD s_Move_CONVERSE_NEXT_SIBLING s_Move_TO_DOCUMENT)), .val (.ref s_Modality_NEXT_SIBLING), .val (.int (0 : Int32)), .val (.ref t1)] [(.ref s_Move_CONVERSE_NEXT_SIBLING)])) rfl (by rw [hml]; rfl) (Steps.refl _) (argsL := []) (rest := []) (lenOf pd_4 rfl) rfl (by show 2 * 0 + _ ≤ _; exact Nat.le_of_eq rfl) (hb hby at_84) (fun _ _ => ⟨rfl, e110, (by decide : 0 + 0 ≤ _), (by decide : 0 + 0 ≤ _)⟩)
    dsimp only [Pt.U, Pt.locs, Pt.cells, Pt.slots] at X111 l111 y111 z111 st111 hQ111
    subst l111 y111 z111
    obtain ⟨rfl, Nq111, e111⟩ := hQ111
    have N111 := Fr.app N110 Nq111
    refine own_go (A := _) (B := T111.setTop (mkF m 87 #[.val (.int p1), .val (.int (1 : Int32)), .val (.ref s_Move_NEXT_SIBLING), .val (.int (frm2 s_Move_NEXT_SIBLING s_Move_CONVERSE_FIRST_CHILD s_Move_CONVERSE_NEXT_SIBLING s_Move_TO_DOCUMENT)), .val (.ref s_Modality_NEXT_SIBLING), .val (.int (0 : Int32)), .val (.ref t1)] [(.int (frm2 s_Move_CONVERSE_NEXT_SIBLING s_Move_CONVERSE_FIRST_CHILD s_Move_CONVERSE_NEXT_SIBLING s_Move_TO_DOCUMENT))])) (fun t k => st111.trans k) ?_
    refine own_go (A := T111.setTop (mkF m 87 #[.val (.int p1), .val (.int (1 : Int32)), .val (.ref s_Move_NEXT_SIBLING), .val (.int (frm2 s_Move_NEXT_SIBLING s_Move_CONVERSE_FIRST_CHILD s_Move_CONVERSE_NEXT_SIBLING s_Move_TO_DOCUMENT)), .val (.ref s_Modality_NEXT_SIBLING), .val (.int (0 : Int32)), .val (.ref t1)] [(.int (frm2 s_Move_CONVERSE_NEXT_SIBLING s_Move_CONVERSE_FIRST_CHILD s_Move_CONVERSE_NEXT_SIBLING s_Move_TO_DOCUMENT))])) (B := T111.setTop (mkF m 92 #[.val (.int p1), .val (.int (1 : Int32)), .val (.ref s_Move_NEXT_SIBLING), .val (.int (frm2 s_Move_NEXT_SIBLING s_Move_CONVERSE_FIRST_CHILD s_Move_CONVERSE_NEXT_SIBLING s_Move_TO_DOCUMENT)), .val (.ref s_Modality_NEXT_SIBLING), .val (.int (0 : Int32)), .val (.int (frm2 s_Move_CONVERSE_NEXT_SIBLING s_Move_CONVERSE_FIRST_CHILD s_Move_CONVERSE_NEXT_SIBLING s_Move_TO_DOCUMENT))] [(.int (0 : Int32)), (.int (frm2 s_Move_NEXT_SIBLING s_Move_CONVERSE_FIRST_CHILD s_Move_CONVERSE_NEXT_SIBLING s_Move_TO_DOCUMENT))])) (fun t k => ?_) ?_
    · show Steps p.tables e below (T111.setTop (mkF m 87 #[.val (.int p1), .val (.int (1 : Int32)), .val (.ref s_Move_NEXT_SIBLING), .val (.int (frm2 s_Move_NEXT_SIBLING s_Move_CONVERSE_FIRST_CHILD s_Move_CONVERSE_NEXT_SIBLING s_Move_TO_DOCUMENT)), .val (.ref s_Modality_NEXT_SIBLING), .val (.int (0 : Int32)), .val (.ref t1)] [(.int (frm2 s_Move_CONVERSE_NEXT_SIBLING s_Move_CONVERSE_FIRST_CHILD s_Move_CONVERSE_NEXT_SIBLING s_Move_TO_DOCUMENT))])) _
      refine XS.istore X111.here hx rfl (hb hby at_87) rfl (l' := #[.val (.int p1), .val (.int (1 : Int32)), .val (.ref s_Move_NEXT_SIBLING), .val (.int (frm2 s_Move_NEXT_SIBLING s_Move_CONVERSE_FIRST_CHILD s_Move_CONVERSE_NEXT_SIBLING s_Move_TO_DOCUMENT)), .val (.ref s_Modality_NEXT_SIBLING), .val (.int (0 : Int32)), .val (.int (frm2 s_Move_CONVERSE_NEXT_SIBLING s_Move_CONVERSE_FIRST_CHILD s_Move_CONVERSE_NEXT_SIBLING s_Move_TO_DOCUMENT))]) rfl ?_
      show Steps p.tables e below (T111.setTop (mkF m 89 #[.val (.int p1), .val (.int (1 : Int32)), .val (.ref s_Move_NEXT_SIBLING), .val (.int (frm2 s_Move_NEXT_SIBLING s_Move_CONVERSE_FIRST_CHILD s_Move_CONVERSE_NEXT_SIBLING s_Move_TO_DOCUMENT)), .val (.ref s_Modality_NEXT_SIBLING), .val (.int (0 : Int32)), .val (.int (frm2 s_Move_CONVERSE_NEXT_SIBLING s_Move_CONVERSE_FIRST_CHILD s_Move_CONVERSE_NEXT_SIBLING s_Move_TO_DOCUMENT))] [])) _
      refine XS.iloadN X111.here hx rfl (hb hby at_89) rfl ?_
      show Steps p.tables e below (T111.setTop (mkF m 90 #[.val (.int p1), .val (.int (1 : Int32)), .val (.ref s_Move_NEXT_SIBLING), .val (.int (frm2 s_Move_NEXT_SIBLING s_Move_CONVERSE_FIRST_CHILD s_Move_CONVERSE_NEXT_SIBLING s_Move_TO_DOCUMENT)), .val (.ref s_Modality_NEXT_SIBLING), .val (.int (0 : Int32)), .val (.int (frm2 s_Move_CONVERSE_NEXT_SIBLING s_Move_CONVERSE_FIRST_CHILD s_Move_CONVERSE_NEXT_SIBLING s_Move_TO_DOCUMENT))] [(.int (frm2 s_Move_NEXT_SIBLING s_Move_CONVERSE_FIRST_CHILD s_Move_CONVERSE_NEXT_SIBLING s_Move_TO_DOCUMENT))])) _
      refine XS.iload X111.here hx rfl (hb hby at_90) rfl ?_
      exact k
    have hc92_112 : ((frm2 s_Move_NEXT_SIBLING s_Move_CONVERSE_FIRST_CHILD s_Move_CONVERSE_NEXT_SIBLING s_Move_TO_DOCUMENT) = (0 : Int32)) := by simp [frm2, ne_s_Move_NEXT_SIBLING_s_Move_CONVERSE_FIRST_CHILD, ne_s_Move_NEXT_SIBLING_s_Move_CONVERSE_NEXT_SIBLING, ne_s_Move_NEXT_SIBLING_s_Move_TO_DOCUMENT, ne_s_Move_CONVERSE_NEXT_SIBLING_s_Move_CONVERSE_FIRST_CHILD]
    refine own_go (A := T111.setTop (mkF m 92 #[.val (.int p1), .val (.int (1 : Int32)), .val (.ref s_Move_NEXT_SIBLING), .val (.int (frm2 s_Move_NEXT_SIBLING s_Move_CONVERSE_FIRST_CHILD s_Move_CONVERSE_NEXT_SIBLING s_Move_TO_DOCUMENT)), .val (.ref s_Modality_NEXT_SIBLING), .val (.int (0 : Int32)), .val (.int (frm2 s_Move_CONVERSE_NEXT_SIBLING s_Move_CONVERSE_FIRST_CHILD s_Move_CONVERSE_NEXT_SIBLING s_Move_TO_DOCUMENT))] [(.int (0 : Int32)), (.int (frm2 s_Move_NEXT_SIBLING s_Move_CONVERSE_FIRST_CHILD s_Move_CONVERSE_NEXT_SIBLING s_Move_TO_DOCUMENT))])) (B := T111.setTop (mkF m 98 #[.val (.int p1), .val (.int (1 : Int32)), .val (.ref s_Move_NEXT_SIBLING), .val (.int (frm2 s_Move_NEXT_SIBLING s_Move_CONVERSE_FIRST_CHILD s_Move_CONVERSE_NEXT_SIBLING s_Move_TO_DOCUMENT)), .val (.ref s_Modality_NEXT_SIBLING), .val (.int (0 : Int32)), .val (.int (frm2 s_Move_CONVERSE_NEXT_SIBLING s_Move_CONVERSE_FIRST_CHILD s_Move_CONVERSE_NEXT_SIBLING s_Move_TO_DOCUMENT))] [(.int (frm2 s_Move_CONVERSE_NEXT_SIBLING s_Move_CONVERSE_FIRST_CHILD s_Move_CONVERSE_NEXT_SIBLING s_Move_TO_DOCUMENT)), (.int (frm2 s_Move_NEXT_SIBLING s_Move_CONVERSE_FIRST_CHILD s_Move_CONVERSE_NEXT_SIBLING s_Move_TO_DOCUMENT))])) (fun t k => ?_) ?_
    · show Steps p.tables e below (T111.setTop (mkF m 92 #[.val (.int p1), .val (.int (1 : Int32)), .val (.ref s_Move_NEXT_SIBLING), .val (.int (frm2 s_Move_NEXT_SIBLING s_Move_CONVERSE_FIRST_CHILD s_Move_CONVERSE_NEXT_SIBLING s_Move_TO_DOCUMENT)), .val (.ref s_Modality_NEXT_SIBLING), .val (.int (0 : Int32)), .val (.int (frm2 s_Move_CONVERSE_NEXT_SIBLING s_Move_CONVERSE_FIRST_CHILD s_Move_CONVERSE_NEXT_SIBLING s_Move_TO_DOCUMENT))] [(.int (0 : Int32)), (.int (frm2 s_Move_NEXT_SIBLING s_Move_CONVERSE_FIRST_CHILD s_Move_CONVERSE_NEXT_SIBLING s_Move_TO_DOCUMENT))])) _
      refine XS.icmpNo X111.here hx rfl (hb hby at_92) rfl (teq hc92_112).2 ?_
      show Steps p.tables e below (T111.setTop (mkF m 95 #[.val (.int p1), .val (.int (1 : Int32)), .val (.ref s_Move_NEXT_SIBLING), .val (.int (frm2 s_Move_NEXT_SIBLING s_Move_CONVERSE_FIRST_CHILD s_Move_CONVERSE_NEXT_SIBLING s_Move_TO_DOCUMENT)), .val (.ref s_Modality_NEXT_SIBLING), .val (.int (0 : Int32)), .val (.int (frm2 s_Move_CONVERSE_NEXT_SIBLING s_Move_CONVERSE_FIRST_CHILD s_Move_CONVERSE_NEXT_SIBLING s_Move_TO_DOCUMENT))] [])) _
      refine XS.iloadN X111.here hx rfl (hb hby at_95) rfl ?_
      show Steps p.tables e below (T111.setTop (mkF m 96 #[.val (.int p1), .val (.int (1 : Int32)), .val (.ref s_Move_NEXT_SIBLING), .val (.int (frm2 s_Move_NEXT_SIBLING s_Move_CONVERSE_FIRST_CHILD s_Move_CONVERSE_NEXT_SIBLING s_Move_TO_DOCUMENT)), .val (.ref s_Modality_NEXT_SIBLING), .val (.int (0 : Int32)), .val (.int (frm2 s_Move_CONVERSE_NEXT_SIBLING s_Move_CONVERSE_FIRST_CHILD s_Move_CONVERSE_NEXT_SIBLING s_Move_TO_DOCUMENT))] [(.int (frm2 s_Move_NEXT_SIBLING s_Move_CONVERSE_FIRST_CHILD s_Move_CONVERSE_NEXT_SIBLING s_Move_TO_DOCUMENT))])) _
      refine XS.iload X111.here hx rfl (hb hby at_96) rfl ?_
      exact k
    have hc98_113 : ¬ ((frm2 s_Move_NEXT_SIBLING s_Move_CONVERSE_FIRST_CHILD s_Move_CONVERSE_NEXT_SIBLING s_Move_TO_DOCUMENT) = (frm2 s_Move_CONVERSE_NEXT_SIBLING s_Move_CONVERSE_FIRST_CHILD s_Move_CONVERSE_NEXT_SIBLING s_Move_TO_DOCUMENT)) := by simp [frm2, ne_s_Move_NEXT_SIBLING_s_Move_CONVERSE_FIRST_CHILD, ne_s_Move_NEXT_SIBLING_s_Move_CONVERSE_NEXT_SIBLING, ne_s_Move_NEXT_SIBLING_s_Move_TO_DOCUMENT, ne_s_Move_CONVERSE_NEXT_SIBLING_s_Move_CONVERSE_FIRST_CHILD]
    refine own_go (A := T111.setTop (mkF m 98 #[.val (.int p1), .val (.int (1 : Int32)), .val (.ref s_Move_NEXT_SIBLING), .val (.int (frm2 s_Move_NEXT_SIBLING s_Move_CONVERSE_FIRST_CHILD s_Move_CONVERSE_NEXT_SIBLING s_Move_TO_DOCUMENT)), .val (.ref s_Modality_NEXT_SIBLING), .val (.int (0 : Int32)), .val (.int (frm2 s_Move_CONVERSE_NEXT_SIBLING s_Move_CONVERSE_FIRST_CHILD s_Move_CONVERSE_NEXT_SIBLING s_Move_TO_DOCUMENT))] [(.int (frm2 s_Move_CONVERSE_NEXT_SIBLING s_Move_CONVERSE_FIRST_CHILD s_Move_CONVERSE_NEXT_SIBLING s_Move_TO_DOCUMENT)), (.int (frm2 s_Move_NEXT_SIBLING s_Move_CONVERSE_FIRST_CHILD s_Move_CONVERSE_NEXT_SIBLING s_Move_TO_DOCUMENT))])) (B := T111.setTop (mkF m 106 #[.val (.int p1), .val (.int (1 : Int32)), .val (.ref s_Move_NEXT_SIBLING), .val (.int (frm2 s_Move_NEXT_SIBLING s_Move_CONVERSE_FIRST_CHILD s_Move_CONVERSE_NEXT_SIBLING s_Move_TO_DOCUMENT)), .val (.ref s_Modality_NEXT_SIBLING), .val (.int (0 : Int32)), .val (.int (frm2 s_Move_CONVERSE_NEXT_SIBLING s_Move_CONVERSE_FIRST_CHILD s_Move_CONVERSE_NEXT_SIBLING s_Move_TO_DOCUMENT))] [(.int (1 : Int32))])) (fun t k => ?_) ?_
    · show Steps p.tables e below (T111.setTop (mkF m 98 #[.val (.int p1), .val (.int (1 : Int32)), .val (.ref s_Move_NEXT_SIBLING), .val (.int (frm2 s_Move_NEXT_SIBLING s_Move_CONVERSE_FIRST_CHILD s_Move_CONVERSE_NEXT_SIBLING s_Move_TO_DOCUMENT)), .val (.ref s_Modality_NEXT_SIBLING), .val (.int (0 : Int32)), .val (.int (frm2 s_Move_CONVERSE_NEXT_SIBLING s_Move_CONVERSE_FIRST_CHILD s_Move_CONVERSE_NEXT_SIBLING s_Move_TO_DOCUMENT))] [(.int (frm2 s_Move_CONVERSE_NEXT_SIBLING s_Move_CONVERSE_FIRST_CHILD s_Move_CONVERSE_NEXT_SIBLING s_Move_TO_DOCUMENT)), (.int (frm2 s_Move_NEXT_SIBLING s_Move_CONVERSE_FIRST_CHILD s_Move_CONVERSE_NEXT_SIBLING s_Move_TO_DOCUMENT))])) _
      refine XS.icmpNo X111.here hx rfl (hb hby at_98) rfl (feq hc98_113).1 ?_
      show Steps p.tables e below (T111.setTop (mkF m 101 #[.val (.int p1), .val (.int (1 : Int32)), .val (.ref s_Move_NEXT_SIBLING), .val (.int (frm2 s_Move_NEXT_SIBLING s_Move_CONVERSE_FIRST_CHILD s_Move_CONVERSE_NEXT_SIBLING s_Move_TO_DOCUMENT)), .val (.ref s_Modality_NEXT_SIBLING), .val (.int (0 : Int32)), .val (.int (frm2 s_Move_CONVERSE_NEXT_SIBLING s_Move_CONVERSE_FIRST_CHILD s_Move_CONVERSE_NEXT_SIBLING s_Move_TO_DOCUMENT))] [])) _
      refine XS.iconst X111.here hx rfl (hb hby at_101) ?_
      show Steps p.tables e below (T111.setTop (mkF m 102 #[.val (.int p1), .val (.int (1 : Int32)), .val (.ref s_Move_NEXT_SIBLING), .val (.int (frm2 s_Move_NEXT_SIBLING s_Move_CONVERSE_FIRST_CHILD s_Move_CONVERSE_NEXT_SIBLING s_Move_TO_DOCUMENT)), .val (.ref s_Modality_NEXT_SIBLING), .val (.int (0 : Int32)), .val (.int (frm2 s_Move_CONVERSE_NEXT_SIBLING s_Move_CONVERSE_FIRST_CHILD s_Move_CONVERSE_NEXT_SIBLING s_Move_TO_DOCUMENT))] [(.int (1 : Int32))])) _
      refine XS.goto X111.here hx rfl (pc0 := 102) (pc' := 106) rfl (hb hby at_102) (by decide) (by decide) ?_
      exact k
    obtain ⟨fs, hr, hrun, hended, hW, hsame⟩ := X111.leave (v := some (.int (1 : Int32))) (fun h => by rw [Bd.returns] at h; cases h)
    refine ⟨_, _, ?_, hrun, hended, _, _, rfl, ?_, ⟨_, rfl⟩, hW, hsame.mono (by decide) (by decide)⟩
    · show Steps p.tables e below (T111.setTop (mkF m 106 #[.val (.int p1), .val (.int (1 : Int32)), .val (.ref s_Move_NEXT_SIBLING), .val (.int (frm2 s_Move_NEXT_SIBLING s_Move_CONVERSE_FIRST_CHILD s_Move_CONVERSE_NEXT_SIBLING s_Move_TO_DOCUMENT)), .val (.ref s_Modality_NEXT_SIBLING), .val (.int (0 : Int32)), .val (.int (frm2 s_Move_CONVERSE_NEXT_SIBLING s_Move_CONVERSE_FIRST_CHILD s_Move_CONVERSE_NEXT_SIBLING s_Move_TO_DOCUMENT))] [(.int (1 : Int32))])) _
      exact retN X111 hx (t := .boolean) Bd.returns (by simp) (hb hby at_106) hr
    · show Qrm0 Z p1 cs fmt s_Move_FIRST_CHILD s_Move_NEXT_SIBLING s_Move_CONVERSE_FIRST_CHILD s_Move_CONVERSE_NEXT_SIBLING s_Move_TO_DOCUMENT s_Move_FROM_DOCUMENT s_Modality_FIRST_CHILD t0 v0 kk0 s_Modality_NEXT_SIBLING t1 v1 kk1 s_Modality_CONVERSE_FIRST_CHILD t2 v2 kk2 s_Modality_CONVERSE_NEXT_SIBLING t3 v3 kk3 h0 n0 _ T111.heap _
      rw [e111]
      exact ⟨rfl, N111⟩
  · rw [hk89]
    refine own_go (A := s₁.setTop (mkF m 7 #[.val (.int p1), .unset, .unset, .unset, .unset, .unset, .unset] [(.int (2 : Int32))])) (B := s₁.setTop (mkF m 9 #[.val (.int p1), .val (.int (2 : Int32)), .unset, .unset, .unset, .unset, .unset] [(.int (2 : Int32))])) (fun t k => ?_) ?_
    · show Steps p.tables e below (s₁.setTop (mkF m 7 #[.val (.int p1), .unset, .unset, .unset, .unset, .unset, .unset] [(.int (2 : Int32))])) _
      refine XS.istoreN X0.here hx rfl (hb hby at_7) rfl (l' := #[.val (.int p1), .val (.int (2 : Int32)), .unset, .unset, .unset, .unset, .unset]) rfl ?_
      show Steps p.tables e below (s₁.setTop (mkF m 8 #[.val (.int p1), .val (.int (2 : Int32)), .unset, .unset, .unset, .unset, .unset] [])) _
      refine XS.iloadN X0.here hx rfl (hb hby at_8) rfl ?_
      exact k
    obtain ⟨_, _, ⟨T114, L114, k114, n114⟩, -, X114, ⟨Lc114, hQ114, l114, y114, z114⟩, st114⟩ := Jvm.LawKit.callS X0 hx (y := (⟨"com/example/decider/decider/library/xpath/MoveUpwardPinLaw", "pick", "(I)Lcom/example/decider/decider/library/xpath/Move;"⟩ : MethodName)) hown (mvT hZ (hw _ (List.mem_of_getElem? (i := 1) rfl))) (mvT hZ (hw _ (List.mem_of_getElem? (i := 2) rfl))) (mvT hZ (hw _ (List.mem_of_getElem? (i := 3) rfl))) (mvT hZ (hw _ (List.mem_of_getElem? (i := 4) rfl))) (by decide) (backOf (W := 0) (rm1_2 l Z a0 hw [] s_Move_CONVERSE_FIRST_CHILD h0 n0 Z0 P10) hZ (hw _ (List.mem_of_getElem? (i := 4) rfl)) (hw _ (List.mem_of_getElem? (i := 3) rfl)) (by decide) (by decide)) (g := (mkF m 9 #[.val (.int p1), .val (.int (2 : Int32)), .unset, .unset, .unset, .unset, .unset] [(.int (2 : Int32))])) rfl (by rw [hml]; rfl) (argsL := [(.int (2 : Int32))]) (rest := []) (lenOf pd_6 rfl) rfl (by show 2 * 0 + _ ≤ _; exact Nat.le_of_eq rfl) (hb hby at_9) (fun _ _ => ⟨rfl, e0, (by decide : 0 + 0 ≤ _), (by decide : 0 + 0 ≤ _)⟩)
    dsimp only [Pt.U, Pt.locs, Pt.cells, Pt.slots] at X114 l114 y114 z114 st114 hQ114
    subst l114 y114 z114
    obtain ⟨rfl, Nq114, e114⟩ := hQ114
    have N114 := Fr.app N0 Nq114
    refine own_go (A := _) (B := T114.setTop (mkF m 12 #[.val (.int p1), .val (.int (2 : Int32)), .unset, .unset, .unset, .unset, .unset] [(.ref s_Move_CONVERSE_FIRST_CHILD)])) st114 ?_
    refine own_go (A := T114.setTop (mkF m 12 #[.val (.int p1), .val (.int (2 : Int32)), .unset, .unset, .unset, .unset, .unset] [(.ref s_Move_CONVERSE_FIRST_CHILD)])) (B := T114.setTop (mkF m 14 #[.val (.int p1), .val (.int (2 : Int32)), .val (.ref s_Move_CONVERSE_FIRST_CHILD), .unset, .unset, .unset, .unset] [(.ref s_Move_CONVERSE_FIRST_CHILD)])) (fun t k => ?_) ?_
    · show Steps p.tables e below (T114.setTop (mkF m 12 #[.val (.int p1), .val (.int (2 : Int32)), .unset, .unset, .unset, .unset, .unset] [(.ref s_Move_CONVERSE_FIRST_CHILD)])) _
      refine XS.astoreN X114.here hx rfl (hb hby at_12) rfl rfl (l' := #[.val (.int p1), .val (.int (2 : Int32)), .val (.ref s_Move_CONVERSE_FIRST_CHILD), .unset, .unset, .unset, .unset]) rfl ?_
      show Steps p.tables e below (T114.setTop (mkF m 13 #[.val (.int p1), .val (.int (2 : Int32)), .val (.ref s_Move_CONVERSE_FIRST_CHILD), .unset, .unset, .unset, .unset] [])) _
      refine XS.aloadN X114.here hx rfl (hb hby at_13) rfl rfl ?_
      exact k
    obtain ⟨cq115, kq115, q115a, q115b, q115c⟩ := isOf hZ e114 P11
    obtain ⟨_, _, ⟨T115, L115, k115, n115⟩, -, X115, ⟨Lc115, hQ115, l115, y115, z115⟩, st115⟩ := X114.virtualBack hx (y := (⟨"com/example/decider/decider/library/xpath/Move", "upward", "()Z"⟩ : MethodName)) (z := (⟨"com/example/decider/decider/library/xpath/Move", "upward", "()Z"⟩ : MethodName)) hown (mvT hZ (hw _ (List.mem_of_getElem? (i := 8) rfl))) (mvT hZ (hw _ (List.mem_of_getElem? (i := 9) rfl))) (notFace_of_selects (args := #[]) (mvT hZ (hw _ (List.mem_of_getElem? (i := 11) rfl)))) (mvT hZ (hw _ (List.mem_of_getElem? (i := 11) rfl))) (mvT hZ (hw _ (List.mem_of_getElem? (i := 10) rfl))) (by decide) (backOf (W := 0) (rm2 l Z a0 hw [] s_Move_CONVERSE_FIRST_CHILD s_Move_CONVERSE_FIRST_CHILD s_Move_CONVERSE_NEXT_SIBLING s_Move_TO_DOCUMENT h0 n0 Z0 P10 P14 P18) hZ (hw _ (List.mem_of_getElem? (i := 12) rfl)) (hw _ (List.mem_of_getElem? (i := 6) rfl)) (by decide) (by decide)) q115a q115c (g := (mkF m 14 #[.val (.int p1), .val (.int (2 : Int32)), .val (.ref s_Move_CONVERSE_FIRST_CHILD), .unset, .unset, .unset, .unset] [(.ref s_Move_CONVERSE_FIRST_CHILD)])) rfl (by rw [hml]; rfl) (Steps.refl _) (argsL := []) (rest := []) (lenOf pd_4 rfl) rfl (by show 2 * 0 + _ ≤ _; exact Nat.le_of_eq rfl) (hb hby at_14) (fun _ _ => ⟨rfl, e114, (by decide : 0 + 0 ≤ _), (by decide : 0 + 0 ≤ _)⟩)
    dsimp only [Pt.U, Pt.locs, Pt.cells, Pt.slots] at X115 l115 y115 z115 st115 hQ115
    subst l115 y115 z115
    obtain ⟨rfl, Nq115, e115⟩ := hQ115
    have N115 := Fr.app N114 Nq115
    refine own_go (A := _) (B := T115.setTop (mkF m 17 #[.val (.int p1), .val (.int (2 : Int32)), .val (.ref s_Move_CONVERSE_FIRST_CHILD), .unset, .unset, .unset, .unset] [(.int (frm2 s_Move_CONVERSE_FIRST_CHILD s_Move_CONVERSE_FIRST_CHILD s_Move_CONVERSE_NEXT_SIBLING s_Move_TO_DOCUMENT))])) (fun t k => st115.trans k) ?_
    refine own_go (A := T115.setTop (mkF m 17 #[.val (.int p1), .val (.int (2 : Int32)), .val (.ref s_Move_CONVERSE_FIRST_CHILD), .unset, .unset, .unset, .unset] [(.int (frm2 s_Move_CONVERSE_FIRST_CHILD s_Move_CONVERSE_FIRST_CHILD s_Move_CONVERSE_NEXT_SIBLING s_Move_TO_DOCUMENT))])) (B := T115.setTop (mkF m 19 #[.val (.int p1), .val (.int (2 : Int32)), .val (.ref s_Move_CONVERSE_FIRST_CHILD), .val (.int (frm2 s_Move_CONVERSE_FIRST_CHILD s_Move_CONVERSE_FIRST_CHILD s_Move_CONVERSE_NEXT_SIBLING s_Move_TO_DOCUMENT)), .unset, .unset, .unset] [(.ref s_Move_CONVERSE_FIRST_CHILD)])) (fun t k => ?_) ?_
    · show Steps p.tables e below (T115.setTop (mkF m 17 #[.val (.int p1), .val (.int (2 : Int32)), .val (.ref s_Move_CONVERSE_FIRST_CHILD), .unset, .unset, .unset, .unset] [(.int (frm2 s_Move_CONVERSE_FIRST_CHILD s_Move_CONVERSE_FIRST_CHILD s_Move_CONVERSE_NEXT_SIBLING s_Move_TO_DOCUMENT))])) _
      refine XS.istoreN X115.here hx rfl (hb hby at_17) rfl (l' := #[.val (.int p1), .val (.int (2 : Int32)), .val (.ref s_Move_CONVERSE_FIRST_CHILD), .val (.int (frm2 s_Move_CONVERSE_FIRST_CHILD s_Move_CONVERSE_FIRST_CHILD s_Move_CONVERSE_NEXT_SIBLING s_Move_TO_DOCUMENT)), .unset, .unset, .unset]) rfl ?_
      show Steps p.tables e below (T115.setTop (mkF m 18 #[.val (.int p1), .val (.int (2 : Int32)), .val (.ref s_Move_CONVERSE_FIRST_CHILD), .val (.int (frm2 s_Move_CONVERSE_FIRST_CHILD s_Move_CONVERSE_FIRST_CHILD s_Move_CONVERSE_NEXT_SIBLING s_Move_TO_DOCUMENT)), .unset, .unset, .unset] [])) _
      refine XS.aloadN X115.here hx rfl (hb hby at_18) rfl rfl ?_
      exact k
    obtain ⟨cq116, kq116, q116a, q116b, q116c⟩ := isOf hZ e115 P11
    obtain ⟨_, _, ⟨T116, L116, k116, n116⟩, -, X116, ⟨Lc116, hQ116, l116, y116, z116⟩, st116⟩ := X115.virtualBack hx (y := (⟨"com/example/decider/decider/library/xpath/Move", "modality", "()Lcom/example/decider/decider/logic/formula/Modality;"⟩ : MethodName)) (z := (⟨"com/example/decider/decider/library/xpath/Move", "modality", "()Lcom/example/decider/decider/logic/formula/Modality;"⟩ : MethodName)) hown (mvT hZ (hw _ (List.mem_of_getElem? (i := 19) rfl))) (mvT hZ (hw _ (List.mem_of_getElem? (i := 20) rfl))) (notFace_of_selects (args := #[]) (mvT hZ (hw _ (List.mem_of_getElem? (i := 22) rfl)))) (mvT hZ (hw _ (List.mem_of_getElem? (i := 22) rfl))) (mvT hZ (hw _ (List.mem_of_getElem? (i := 21) rfl))) (by decide) (backOf (W := 0) (rm3 l Z a0 hw [] s_Move_CONVERSE_FIRST_CHILD s_Modality_CONVERSE_FIRST_CHILD h0 n0 Z0 P13) hZ (hw _ (List.mem_of_getElem? (i := 23) rfl)) (hw _ (List.mem_of_getElem? (i := 6) rfl)) (by decide) (by decide)) q116a q116c (g := (mkF m 19 #[.val (.int p1), .val (.int (2 : Int32)), .val (.ref s_Move_CONVERSE_FIRST_CHILD), .val (.int (frm2 s_Move_CONVERSE_FIRST_CHILD s_Move_CONVERSE_FIRST_CHILD s_Move_CONVERSE_NEXT_SIBLING s_Move_TO_DOCUMENT)), .unset, .unset, .unset] [(.ref s_Move_CONVERSE_FIRST_CHILD)])) rfl (by rw [hml]; rfl) (Steps.refl _) (argsL := []) (rest := []) (lenOf pd_7 rfl) rfl (by show 2 * 0 + _ ≤ _; exact Nat.le_of_eq rfl) (hb hby at_19) (fun _ _ => ⟨rfl, e115, (by decide : 0 + 0 ≤ _), (by decide : 0 + 0 ≤ _)⟩)
    dsimp only [Pt.U, Pt.locs, Pt.cells, Pt.slots] at X116 l116 y116 z116 st116 hQ116
    subst l116 y116 z116
    obtain ⟨rfl, Nq116, e116⟩ := hQ116
    have N116 := Fr.app N115 Nq116
    refine own_go (A := _) (B := T116.setTop (mkF m 22 #[.val (.int p1), .val (.int (2 : Int32)), .val (.ref s_Move_CONVERSE_FIRST_CHILD), .val (.int (frm2 s_Move_CONVERSE_FIRST_CHILD s_Move_CONVERSE_FIRST_CHILD s_Move_CONVERSE_NEXT_SIBLING s_Move_TO_DOCUMENT)), .unset, .unset, .unset] [(.ref s_Modality_CONVERSE_FIRST_CHILD)])) (fun t k => st116.trans k) ?_
    refine own_go (A := T116.setTop (mkF m 22 #[.val (.int p1), .val (.int (2 : Int32)), .val (.ref s_Move_CONVERSE_FIRST_CHILD), .val (.int (frm2 s_Move_CONVERSE_FIRST_CHILD s_Move_CONVERSE_FIRST_CHILD s_Move_CONVERSE_NEXT_SIBLING s_Move_TO_DOCUMENT)), .unset, .unset, .unset] [(.ref s_Modality_CONVERSE_FIRST_CHILD)])) (B := T116.setTop (mkF m 31 #[.val (.int p1), .val (.int (2 : Int32)), .val (.ref s_Move_CONVERSE_FIRST_CHILD), .val (.int (frm2 s_Move_CONVERSE_FIRST_CHILD s_Move_CONVERSE_FIRST_CHILD s_Move_CONVERSE_NEXT_SIBLING s_Move_TO_DOCUMENT)), .val (.ref s_Modality_CONVERSE_FIRST_CHILD), .unset, .unset] [(.ref s_Modality_CONVERSE_FIRST_CHILD)])) (fun t k => ?_) ?_
    · show Steps p.tables e below (T116.setTop (mkF m 22 #[.val (.int p1), .val (.int (2 : Int32)), .val (.ref s_Move_CONVERSE_FIRST_CHILD), .val (.int (frm2 s_Move_CONVERSE_FIRST_CHILD s_Move_CONVERSE_FIRST_CHILD s_Move_CONVERSE_NEXT_SIBLING s_Move_TO_DOCUMENT)), .unset, .unset, .unset] [(.ref s_Modality_CONVERSE_FIRST_CHILD)])) _
      refine XS.astore X116.here hx rfl (hb hby at_22) rfl rfl (l' := #[.val (.int p1), .val (.int (2 : Int32)), .val (.ref s_Move_CONVERSE_FIRST_CHILD), .val (.int (frm2 s_Move_CONVERSE_FIRST_CHILD s_Move_CONVERSE_FIRST_CHILD s_Move_CONVERSE_NEXT_SIBLING s_Move_TO_DOCUMENT)), .val (.ref s_Modality_CONVERSE_FIRST_CHILD), .unset, .unset]) rfl ?_
      show Steps p.tables e below (T116.setTop (mkF m 24 #[.val (.int p1), .val (.int (2 : Int32)), .val (.ref s_Move_CONVERSE_FIRST_CHILD), .val (.int (frm2 s_Move_CONVERSE_FIRST_CHILD s_Move_CONVERSE_FIRST_CHILD s_Move_CONVERSE_NEXT_SIBLING s_Move_TO_DOCUMENT)), .val (.ref s_Modality_CONVERSE_FIRST_CHILD), .unset, .unset] [])) _
      refine XS.aload X116.here hx rfl (hb hby at_24) rfl rfl ?_
      show Steps p.tables e below (T116.setTop (mkF m 26 #[.val (.int p1), .val (.int (2 : Int32)), .val (.ref s_Move_CONVERSE_FIRST_CHILD), .val (.int (frm2 s_Move_CONVERSE_FIRST_CHILD s_Move_CONVERSE_FIRST_CHILD s_Move_CONVERSE_NEXT_SIBLING s_Move_TO_DOCUMENT)), .val (.ref s_Modality_CONVERSE_FIRST_CHILD), .unset, .unset] [(.ref s_Modality_CONVERSE_FIRST_CHILD)])) _
      refine XS.ifnullNo X116.here hx rfl (hb hby at_26) rfl ?_
      show Steps p.tables e below (T116.setTop (mkF m 29 #[.val (.int p1), .val (.int (2 : Int32)), .val (.ref s_Move_CONVERSE_FIRST_CHILD), .val (.int (frm2 s_Move_CONVERSE_FIRST_CHILD s_Move_CONVERSE_FIRST_CHILD s_Move_CONVERSE_NEXT_SIBLING s_Move_TO_DOCUMENT)), .val (.ref s_Modality_CONVERSE_FIRST_CHILD), .unset, .unset] [])) _
      refine XS.aload X116.here hx rfl (hb hby at_29) rfl rfl ?_
      exact k
    obtain ⟨cq117, kq117, q117a, q117b, q117c⟩ := isOf hZ e116 P38
    obtain ⟨_, _, ⟨T117, L117, k117, n117⟩, -, X117, ⟨Lc117, hQ117, l117, y117, z117⟩, st117⟩ := X116.virtualBack hx (y := (⟨"com/example/decider/decider/logic/formula/Modality", "spelling", "()Ljava/lang/String;"⟩ : MethodName)) (z := (⟨"com/example/decider/decider/logic/formula/Modality", "spelling", "()Ljava/lang/String;"⟩ : MethodName)) hown (mvT hZ (hw _ (List.mem_of_getElem? (i := 28) rfl))) (mvT hZ (hw _ (List.mem_of_getElem? (i := 29) rfl))) (notFace_of_selects (args := #[]) (mvT hZ (hw _ (List.mem_of_getElem? (i := 31) rfl)))) (mvT hZ (hw _ (List.mem_of_getElem? (i := 31) rfl))) (mvT hZ (hw _ (List.mem_of_getElem? (i := 30) rfl))) (by decide) (backOf (W := 0) (rm4 l Z a0 hw [] s_Modality_CONVERSE_FIRST_CHILD t2 h0 n0 Z0 P39) hZ (hw _ (List.mem_of_getElem? (i := 32) rfl)) (hw _ (List.mem_of_getElem? (i := 26) rfl)) (by decide) (by decide)) q117a q117c (g := (mkF m 31 #[.val (.int p1), .val (.int (2 : Int32)), .val (.ref s_Move_CONVERSE_FIRST_CHILD), .val (.int (frm2 s_Move_CONVERSE_FIRST_CHILD s_Move_CONVERSE_FIRST_CHILD s_Move_CONVERSE_NEXT_SIBLING s_Move_TO_DOCUMENT)), .val (.ref s_Modality_CONVERSE_FIRST_CHILD), .unset, .unset] [(.ref s_Modality_CONVERSE_FIRST_CHILD)])) rfl (by rw [hml]; rfl) (Steps.refl _) (argsL := []) (rest := []) (lenOf pd_8 rfl) rfl (by show 2 * 0 + _ ≤ _; exact Nat.le_of_eq rfl) (hb hby at_31) (fun _ _ => ⟨rfl, e116, (by decide : 0 + 0 ≤ _), (by decide : 0 + 0 ≤ _)⟩)
    dsimp only [Pt.U, Pt.locs, Pt.cells, Pt.slots] at X117 l117 y117 z117 st117 hQ117
    subst l117 y117 z117
    obtain ⟨rfl, Nq117, e117⟩ := hQ117
    have N117 := Fr.app N116 Nq117
    refine own_go (A := _) (B := T117.setTop (mkF m 34 #[.val (.int p1), .val (.int (2 : Int32)), .val (.ref s_Move_CONVERSE_FIRST_CHILD), .val (.int (frm2 s_Move_CONVERSE_FIRST_CHILD s_Move_CONVERSE_FIRST_CHILD s_Move_CONVERSE_NEXT_SIBLING s_Move_TO_DOCUMENT)), .val (.ref s_Modality_CONVERSE_FIRST_CHILD), .unset, .unset] [(.ref t2)])) (fun t k => st117.trans k) ?_
    refine own_go (A := T117.setTop (mkF m 34 #[.val (.int p1), .val (.int (2 : Int32)), .val (.ref s_Move_CONVERSE_FIRST_CHILD), .val (.int (frm2 s_Move_CONVERSE_FIRST_CHILD s_Move_CONVERSE_FIRST_CHILD s_Move_CONVERSE_NEXT_SIBLING s_Move_TO_DOCUMENT)), .val (.ref s_Modality_CONVERSE_FIRST_CHILD), .unset, .unset] [(.ref t2)])) (B := T117.setTop (mkF m 38 #[.val (.int p1), .val (.int (2 : Int32)), .val (.ref s_Move_CONVERSE_FIRST_CHILD), .val (.int (frm2 s_Move_CONVERSE_FIRST_CHILD s_Move_CONVERSE_FIRST_CHILD s_Move_CONVERSE_NEXT_SIBLING s_Move_TO_DOCUMENT)), .val (.ref s_Modality_CONVERSE_FIRST_CHILD), .unset, .val (.ref t2)] [(.ref t2)])) (fun t k => ?_) ?_
    · show Steps p.tables e below (T117.setTop (mkF m 34 #[.val (.int p1), .val (.int (2 : Int32)), .val (.ref s_Move_CONVERSE_FIRST_CHILD), .val (.int (frm2 s_Move_CONVERSE_FIRST_CHILD s_Move_CONVERSE_FIRST_CHILD s_Move_CONVERSE_NEXT_SIBLING s_Move_TO_DOCUMENT)), .val (.ref s_Modality_CONVERSE_FIRST_CHILD), .unset, .unset] [(.ref t2)])) _
      refine XS.astore X117.here hx rfl (hb hby at_34) rfl rfl (l' := #[.val (.int p1), .val (.int (2 : Int32)), .val (.ref s_Move_CONVERSE_FIRST_CHILD), .val (.int (frm2 s_Move_CONVERSE_FIRST_CHILD s_Move_CONVERSE_FIRST_CHILD s_Move_CONVERSE_NEXT_SIBLING s_Move_TO_DOCUMENT)), .val (.ref s_Modality_CONVERSE_FIRST_CHILD), .unset, .val (.ref t2)]) rfl ?_
      show Steps p.tables e below (T117.setTop (mkF m 36 #[.val (.int p1), .val (.int (2 : Int32)), .val (.ref s_Move_CONVERSE_FIRST_CHILD), .val (.int (frm2 s_Move_CONVERSE_FIRST_CHILD s_Move_CONVERSE_FIRST_CHILD s_Move_CONVERSE_NEXT_SIBLING s_Move_TO_DOCUMENT)), .val (.ref s_Modality_CONVERSE_FIRST_CHILD), .unset, .val (.ref t2)] [])) _
      refine XS.aload X117.here hx rfl (hb hby at_36) rfl rfl ?_
      exact k
    obtain ⟨cq118, kq118, q118a, q118b, q118c⟩ := isOf hZ e117 P40
    obtain ⟨_, _, ⟨T118, L118, k118, n118⟩, -, X118, ⟨Lc118, hQ118, l118, y118, z118⟩, st118⟩ := X117.virtualBack hx (y := (⟨"java/lang/String", "length", "()I"⟩ : MethodName)) (z := (⟨"java/lang/String", "length", "()I"⟩ : MethodName)) hown (mvT hZ (hw _ (List.mem_of_getElem? (i := 35) rfl))) (mvT hZ (hw _ (List.mem_of_getElem? (i := 36) rfl))) (notFace_of_selects (args := #[]) (mvT hZ (hw _ (List.mem_of_getElem? (i := 38) rfl)))) (mvT hZ (hw _ (List.mem_of_getElem? (i := 38) rfl))) (mvT hZ (hw _ (List.mem_of_getElem? (i := 37) rfl))) (by decide) (backOf (W := 0) (rm5_4 l Z a0 hw [] t2 cs (60 : Int32) (45 : Int32) (49 : Int32) (62 : Int32) v2 kk2 h0 n0 Z0 P40 P0 P42 P41 P43 hcs) hZ (hw _ (List.mem_of_getElem? (i := 40) rfl)) (hw _ (List.mem_of_getElem? (i := 39) rfl)) (by decide) (by decide)) q118a q118c (g := (mkF m 38 #[.val (.int p1), .val (.int (2 : Int32)), .val (.ref s_Move_CONVERSE_FIRST_CHILD), .val (.int (frm2 s_Move_CONVERSE_FIRST_CHILD s_Move_CONVERSE_FIRST_CHILD s_Move_CONVERSE_NEXT_SIBLING s_Move_TO_DOCUMENT)), .val (.ref s_Modality_CONVERSE_FIRST_CHILD), .unset, .val (.ref t2)] [(.ref t2)])) rfl (by rw [hml]; rfl) (Steps.refl _) (argsL := []) (rest := []) (lenOf pd_0 rfl) rfl (by show 2 * 0 + _ ≤ _; exact Nat.le_of_eq rfl) (hb hby at_38) (fun _ _ => ⟨rfl, e117, (by decide : 0 + 0 ≤ _), (by decide : 0 + 0 ≤ _)⟩)
    dsimp only [Pt.U, Pt.locs, Pt.cells, Pt.slots] at X118 l118 y118 z118 st118 hQ118
    subst l118 y118 z118
    obtain ⟨rfl, Nq118, e118⟩ := hQ118
    have N118 := Fr.app N117 Nq118
    refine own_go (A := _) (B := T118.setTop (mkF m 41 #[.val (.int p1), .val (.int (2 : Int32)), .val (.ref s_Move_CONVERSE_FIRST_CHILD), .val (.int (frm2 s_Move_CONVERSE_FIRST_CHILD s_Move_CONVERSE_FIRST_CHILD s_Move_CONVERSE_NEXT_SIBLING s_Move_TO_DOCUMENT)), .val (.ref s_Modality_CONVERSE_FIRST_CHILD), .unset, .val (.ref t2)] [(.int (4 : Int32))])) (fun t k => st118.trans k) ?_
    refine own_go (A := T118.setTop (mkF m 41 #[.val (.int p1), .val (.int (2 : Int32)), .val (.ref s_Move_CONVERSE_FIRST_CHILD), .val (.int (frm2 s_Move_CONVERSE_FIRST_CHILD s_Move_CONVERSE_FIRST_CHILD s_Move_CONVERSE_NEXT_SIBLING s_Move_TO_DOCUMENT)), .val (.ref s_Modality_CONVERSE_FIRST_CHILD), .unset, .val (.ref t2)] [(.int (4 : Int32))])) (B := T118.setTop (mkF m 48 #[.val (.int p1), .val (.int (2 : Int32)), .val (.ref s_Move_CONVERSE_FIRST_CHILD), .val (.int (frm2 s_Move_CONVERSE_FIRST_CHILD s_Move_CONVERSE_FIRST_CHILD s_Move_CONVERSE_NEXT_SIBLING s_Move_TO_DOCUMENT)), .val (.ref s_Modality_CONVERSE_FIRST_CHILD), .unset, .val (.ref t2)] [(.int (1 : Int32)), (.ref t2)])) (fun t k => ?_) ?_
    · show Steps p.tables e below (T118.setTop (mkF m 41 #[.val (.int p1), .val (.int (2 : Int32)), .val (.ref s_Move_CONVERSE_FIRST_CHILD), .val (.int (frm2 s_Move_CONVERSE_FIRST_CHILD s_Move_CONVERSE_FIRST_CHILD s_Move_CONVERSE_NEXT_SIBLING s_Move_TO_DOCUMENT)), .val (.ref s_Modality_CONVERSE_FIRST_CHILD), .unset, .val (.ref t2)] [(.int (4 : Int32))])) _
      refine XS.iconst X118.here hx rfl (hb hby at_41) ?_
      show Steps p.tables e below (T118.setTop (mkF m 42 #[.val (.int p1), .val (.int (2 : Int32)), .val (.ref s_Move_CONVERSE_FIRST_CHILD), .val (.int (frm2 s_Move_CONVERSE_FIRST_CHILD s_Move_CONVERSE_FIRST_CHILD s_Move_CONVERSE_NEXT_SIBLING s_Move_TO_DOCUMENT)), .val (.ref s_Modality_CONVERSE_FIRST_CHILD), .unset, .val (.ref t2)] [(.int (1 : Int32)), (.int (4 : Int32))])) _
      refine XS.icmpNo X118.here hx rfl (hb hby at_42) rfl (tlt (by decide : ((1 : Int32) < (4 : Int32)))).2.2.2 ?_
      show Steps p.tables e below (T118.setTop (mkF m 45 #[.val (.int p1), .val (.int (2 : Int32)), .val (.ref s_Move_CONVERSE_FIRST_CHILD), .val (.int (frm2 s_Move_CONVERSE_FIRST_CHILD s_Move_CONVERSE_FIRST_CHILD s_Move_CONVERSE_NEXT_SIBLING s_Move_TO_DOCUMENT)), .val (.ref s_Modality_CONVERSE_FIRST_CHILD), .unset, .val (.ref t2)] [])) _
      refine XS.aload X118.here hx rfl (hb hby at_45) rfl rfl ?_
      show Steps p.tables e below (T118.setTop (mkF m 47 #[.val (.int p1), .val (.int (2 : Int32)), .val (.ref s_Move_CONVERSE_FIRST_CHILD), .val (.int (frm2 s_Move_CONVERSE_FIRST_CHILD s_Move_CONVERSE_FIRST_CHILD s_Move_CONVERSE_NEXT_SIBLING s_Move_TO_DOCUMENT)), .val (.ref s_Modality_CONVERSE_FIRST_CHILD), .unset, .val (.ref t2)] [(.ref t2)])) _
      refine XS.iconst X118.here hx rfl (hb hby at_47) ?_
      exact k
    obtain ⟨cq120, kq120, q120a, q120b, q120c⟩ := isOf hZ e118 P40
    obtain ⟨_, _, ⟨T120, L120, k120, n120⟩, -, X120, ⟨Lc120, hQ120, l120, y120, z120⟩, st120⟩ := X118.virtualBack hx (y := (⟨"java/lang/String", "charAt", "(I)C"⟩ : MethodName)) (z := (⟨"java/lang/String", "charAt", "(I)C"⟩ : MethodName)) hown (mvT hZ (hw _ (List.mem_of_getElem? (i := 51) rfl))) (mvT hZ (hw _ (List.mem_of_getElem? (i := 52) rfl))) (notFace_of_selects (args := #[]) (mvT hZ (hw _ (List.mem_of_getElem? (i := 54) rfl)))) (mvT hZ (hw _ (List.mem_of_getElem? (i := 54) rfl))) (mvT hZ (hw _ (List.mem_of_getElem? (i := 53) rfl))) (by decide) (backOf (W := 0) (rm7_4 l Z a0 hw [] t2 cs (60 : Int32) (45 : Int32) (49 : Int32) (62 : Int32) v2 kk2 fmt h0 n0 Z0 P40 P0 P1 P42 P41 P43 hcs) hZ (hw _ (List.mem_of_getElem? (i := 55) rfl)) (hw _ (List.mem_of_getElem? (i := 39) rfl)) (by decide) (by decide)) q120a q120c (g := (mkF m 48 #[.val (.int p1), .val (.int (2 : Int32)), .val (.ref s_Move_CONVERSE_FIRST_CHILD), .val (.int (frm2 s_Move_CONVERSE_FIRST_CHILD s_Move_CONVERSE_FIRST_CHILD s_Move_CONVERSE_NEXT_SIBLING s_Move_TO_DOCUMENT)), .val (.ref s_Modality_CONVERSE_FIRST_CHILD), .unset, .val (.ref t2)] [(.int (1 : Int32)), (.ref t2)])) rfl (by rw [hml]; rfl) (Steps.refl _) (argsL := [(.int (1 : Int32))]) (rest := []) (lenOf pd_9 rfl) rfl (by show 2 * 0 + _ ≤ _; exact Nat.le_of_eq rfl) (hb hby at_48) (fun _ _ => ⟨rfl, e118, (by decide : 0 + 0 ≤ _), (by decide : 0 + 0 ≤ _)⟩)
    dsimp only [Pt.U, Pt.locs, Pt.cells, Pt.slots] at X120 l120 y120 z120 st120 hQ120
    subst l120 y120 z120
    obtain ⟨rfl, Nq120, e120⟩ := hQ120
    have N120 := Fr.app N118 Nq120
    refine own_go (A := _) (B := T120.setTop (mkF m 51 #[.val (.int p1), .val (.int (2 : Int32)), .val (.ref s_Move_CONVERSE_FIRST_CHILD), .val (.int (frm2 s_Move_CONVERSE_FIRST_CHILD s_Move_CONVERSE_FIRST_CHILD s_Move_CONVERSE_NEXT_SIBLING s_Move_TO_DOCUMENT)), .val (.ref s_Modality_CONVERSE_FIRST_CHILD), .unset, .val (.ref t2)] [(.int (nar .char (nar .char (((45 : Int32) &&& (255 : Int32)).toUInt32.toUInt16.toUInt32.toInt32))))])) (fun t k => st120.trans k) ?_
    refine own_go (A := T120.setTop (mkF m 51 #[.val (.int p1), .val (.int (2 : Int32)), .val (.ref s_Move_CONVERSE_FIRST_CHILD), .val (.int (frm2 s_Move_CONVERSE_FIRST_CHILD s_Move_CONVERSE_FIRST_CHILD s_Move_CONVERSE_NEXT_SIBLING s_Move_TO_DOCUMENT)), .val (.ref s_Modality_CONVERSE_FIRST_CHILD), .unset, .val (.ref t2)] [(.int (nar .char (nar .char (((45 : Int32) &&& (255 : Int32)).toUInt32.toUInt16.toUInt32.toInt32))))])) (B := T120.setTop (mkF m 53 #[.val (.int p1), .val (.int (2 : Int32)), .val (.ref s_Move_CONVERSE_FIRST_CHILD), .val (.int (frm2 s_Move_CONVERSE_FIRST_CHILD s_Move_CONVERSE_FIRST_CHILD s_Move_CONVERSE_NEXT_SIBLING s_Move_TO_DOCUMENT)), .val (.ref s_Modality_CONVERSE_FIRST_CHILD), .unset, .val (.ref t2)] [(.int (45 : Int32)), (.int (nar .char (nar .char (((45 : Int32) &&& (255 : Int32)).toUInt32.toUInt16.toUInt32.toInt32))))])) (fun t k => ?_) ?_
    · show Steps p.tables e below (T120.setTop (mkF m 51 #[.val (.int p1), .val (.int (2 : Int32)), .val (.ref s_Move_CONVERSE_FIRST_CHILD), .val (.int (frm2 s_Move_CONVERSE_FIRST_CHILD s_Move_CONVERSE_FIRST_CHILD s_Move_CONVERSE_NEXT_SIBLING s_Move_TO_DOCUMENT)), .val (.ref s_Modality_CONVERSE_FIRST_CHILD), .unset, .val (.ref t2)] [(.int (nar .char (nar .char (((45 : Int32) &&& (255 : Int32)).toUInt32.toUInt16.toUInt32.toInt32))))])) _
      refine XS.bipush X120.here hx rfl (hb hby at_51) ?_
      exact k
    have hc53_121 : ((nar .char (nar .char (((45 : Int32) &&& (255 : Int32)).toUInt32.toUInt16.toUInt32.toInt32))) = (45 : Int32)) := by decide
    refine own_go (A := T120.setTop (mkF m 53 #[.val (.int p1), .val (.int (2 : Int32)), .val (.ref s_Move_CONVERSE_FIRST_CHILD), .val (.int (frm2 s_Move_CONVERSE_FIRST_CHILD s_Move_CONVERSE_FIRST_CHILD s_Move_CONVERSE_NEXT_SIBLING s_Move_TO_DOCUMENT)), .val (.ref s_Modality_CONVERSE_FIRST_CHILD), .unset, .val (.ref t2)] [(.int (45 : Int32)), (.int (nar .char (nar .char (((45 : Int32) &&& (255 : Int32)).toUInt32.toUInt16.toUInt32.toInt32))))])) (B := T120.setTop (mkF m 81 #[.val (.int p1), .val (.int (2 : Int32)), .val (.ref s_Move_CONVERSE_FIRST_CHILD), .val (.int (frm2 s_Move_CONVERSE_FIRST_CHILD s_Move_CONVERSE_FIRST_CHILD s_Move_CONVERSE_NEXT_SIBLING s_Move_TO_DOCUMENT)), .val (.ref s_Modality_CONVERSE_FIRST_CHILD), .val (.int (1 : Int32)), .val (.ref t2)] [(.ref s_Move_CONVERSE_FIRST_CHILD)])) (fun t k => ?_) ?_
    · show Steps p.tables e below (T120.setTop (mkF m 53 #[.val (.int p1), .val (.int (2 : Int32)), .val (.ref s_Move_CONVERSE_FIRST_CHILD), .val (.int (frm2 s_Move_CONVERSE_FIRST_CHILD s_Move_CONVERSE_FIRST_CHILD s_Move_CONVERSE_NEXT_SIBLING s_Move_TO_DOCUMENT)), .val (.ref s_Modality_CONVERSE_FIRST_CHILD), .unset, .val (.ref t2)] [(.int (45 : Int32)), (.int (nar .char (nar .char (((45 : Int32) &&& (255 : Int32)).toUInt32.toUInt16.toUInt32.toInt32))))])) _
      refine XS.icmpNo X120.here hx rfl (hb hby at_53) rfl (teq hc53_121).2 ?_
      show Steps p.tables e below (T120.setTop (mkF m 56 #[.val (.int p1), .val (.int (2 : Int32)), .val (.ref s_Move_CONVERSE_FIRST_CHILD), .val (.int (frm2 s_Move_CONVERSE_FIRST_CHILD s_Move_CONVERSE_FIRST_CHILD s_Move_CONVERSE_NEXT_SIBLING s_Move_TO_DOCUMENT)), .val (.ref s_Modality_CONVERSE_FIRST_CHILD), .unset, .val (.ref t2)] [])) _
      refine XS.iconst X120.here hx rfl (hb hby at_56) ?_
      show Steps p.tables e below (T120.setTop (mkF m 57 #[.val (.int p1), .val (.int (2 : Int32)), .val (.ref s_Move_CONVERSE_FIRST_CHILD), .val (.int (frm2 s_Move_CONVERSE_FIRST_CHILD s_Move_CONVERSE_FIRST_CHILD s_Move_CONVERSE_NEXT_SIBLING s_Move_TO_DOCUMENT)), .val (.ref s_Modality_CONVERSE_FIRST_CHILD), .unset, .val (.ref t2)] [(.int (1 : Int32))])) _
      refine XS.goto X120.here hx rfl (pc0 := 57) (pc' := 61) rfl (hb hby at_57) (by decide) (by decide) ?_
      show Steps p.tables e below (T120.setTop (mkF m 61 #[.val (.int p1), .val (.int (2 : Int32)), .val (.ref s_Move_CONVERSE_FIRST_CHILD), .val (.int (frm2 s_Move_CONVERSE_FIRST_CHILD s_Move_CONVERSE_FIRST_CHILD s_Move_CONVERSE_NEXT_SIBLING s_Move_TO_DOCUMENT)), .val (.ref s_Modality_CONVERSE_FIRST_CHILD), .unset, .val (.ref t2)] [(.int (1 : Int32))])) _
      refine XS.istore X120.here hx rfl (hb hby at_61) rfl (l' := #[.val (.int p1), .val (.int (2 : Int32)), .val (.ref s_Move_CONVERSE_FIRST_CHILD), .val (.int (frm2 s_Move_CONVERSE_FIRST_CHILD s_Move_CONVERSE_FIRST_CHILD s_Move_CONVERSE_NEXT_SIBLING s_Move_TO_DOCUMENT)), .val (.ref s_Modality_CONVERSE_FIRST_CHILD), .val (.int (1 : Int32)), .val (.ref t2)]) rfl ?_
      show Steps p.tables e below (T120.setTop (mkF m 63 #[.val (.int p1), .val (.int (2 : Int32)), .val (.ref s_Move_CONVERSE_FIRST_CHILD), .val (.int (frm2 s_Move_CONVERSE_FIRST_CHILD s_Move_CONVERSE_FIRST_CHILD s_Move_CONVERSE_NEXT_SIBLING s_Move_TO_DOCUMENT)), .val (.ref s_Modality_CONVERSE_FIRST_CHILD), .val (.int (1 : Int32)), .val (.ref t2)] [])) _
      refine XS.goto X120.here hx rfl (pc0 := 63) (pc' := 80) rfl (hb hby at_63) (by decide) (by decide) ?_
      show Steps p.tables e below (T120.setTop (mkF m 80 #[.val (.int p1), .val (.int (2 : Int32)), .val (.ref s_Move_CONVERSE_FIRST_CHILD), .val (.int (frm2 s_Move_CONVERSE_FIRST_CHILD s_Move_CONVERSE_FIRST_CHILD s_Move_CONVERSE_NEXT_SIBLING s_Move_TO_DOCUMENT)), .val (.ref s_Modality_CONVERSE_FIRST_CHILD), .val (.int (1 : Int32)), .val (.ref t2)] [])) _
      refine XS.aloadN X120.here hx rfl (hb hby at_80) rfl rfl ?_
      exact k
    obtain ⟨cq122, kq122, q122a, q122b, q122c⟩ := isOf hZ e120 P11
    obtain ⟨_, _, ⟨T122, L122, k122, n122⟩, -, X122, ⟨Lc122, hQ122, l122, y122, z122⟩, st122⟩ := X120.virtualBack hx (y := (⟨"com/example/decider/decider/library/xpath/Move", "inverse", "()Lcom/example/decider/decider/library/xpath/Move;"⟩ : MethodName)) (z := (⟨"com/example/decider/decider/library/xpath/Move", "inverse", "()Lcom/example/decider/decider/library/xpath/Move;"⟩ : MethodName)) hown (mvT hZ (hw _ (List.mem_of_getElem? (i := 73) rfl))) (mvT hZ (hw _ (List.mem_of_getElem? (i := 74) rfl))) (notFace_of_selects (args := #[]) (mvT hZ (hw _ (List.mem_of_getElem? (i := 76) rfl)))) (mvT hZ (hw _ (List.mem_of_getElem? (i := 76) rfl))) (mvT hZ (hw _ (List.mem_of_getElem? (i := 75) rfl))) (by decide) (backOf (W := 0) (rm12_2 l Z a0 hw [] s_Move_CONVERSE_FIRST_CHILD s_Move_FIRST_CHILD h0 n0 Z0 P11 P2 P12) hZ (hw _ (List.mem_of_getElem? (i := 77) rfl)) (hw _ (List.mem_of_getElem? (i := 6) rfl)) (by decide) (by decide)) q122a q122c (g := (mkF m 81 #[.val (.int p1), .val (.int (2 : Int32)), .val (.ref s_Move_CONVERSE_FIRST_CHILD), .val (.int (frm2 s_Move_CONVERSE_FIRST_CHILD s_Move_CONVERSE_FIRST_CHILD s_Move_CONVERSE_NEXT_SIBLING s_Move_TO_DOCUMENT)), .val (.ref s_Modality_CONVERSE_FIRST_CHILD), .val (.int (1 : Int32)), .val (.ref t2)] [(.ref s_Move_CONVERSE_FIRST_CHILD)])) rfl (by rw [hml]; rfl) (Steps.refl _) (argsL := []) (rest := []) (lenOf pd_10 rfl) rfl (by show 2 * 0 + _ ≤ _; exact Nat.le_of_eq rfl) (hb hby at_81) (fun _ _ => ⟨rfl, e120, (by decide : 0 + 0 ≤ _), (by decide : 0 + 0 ≤ _)⟩)
    dsimp only [Pt.U, Pt.locs, Pt.cells, Pt.slots] at X122 l122 y122 z122 st122 hQ122
    subst l122 y122 z122
    obtain ⟨rfl, Nq122, e122⟩ := hQ122
    have N122 := Fr.app N120 Nq122
    refine own_go (A := _) (B := T122.setTop (mkF m 84 #[.val (.int p1), .val (.int (2 : Int32)), .val (.ref s_Move_CONVERSE_FIRST_CHILD), .val (.int (frm2 s_Move_CONVERSE_FIRST_CHILD s_Move_CONVERSE_FIRST_CHILD s_Move_CONVERSE_NEXT_SIBLING s_Move_TO_DOCUMENT)), .val (.ref s_Modality_CONVERSE_FIRST_CHILD), .val (.int (1 : Int32)), .val (.ref t2)] [(.ref s_Move_FIRST_CHILD)])) (fun t k => st122.trans k) ?_
    obtain ⟨cq123, kq123, q123a, q123b, q123c⟩ := isOf hZ e122 P3
    obtain ⟨_, _, ⟨T123, L123, k123, n123⟩, -, X123, ⟨Lc123, hQ123, l123, y123, z123⟩, st123⟩ := X122.virtualBack hx (y := (⟨"com/example/decider/decider/library/xpath/Move", "upward", "()Z"⟩ : MethodName)) (z := (⟨"com/example/decider/decider/library/xpath/Move", "upward", "()Z"⟩ : MethodName)) hown (mvT hZ (hw _ (List.mem_of_getElem? (i := 8) rfl))) (mvT hZ (hw _ (List.mem_of_getElem? (i := 9) rfl))) (notFace_of_selects (args := #[]) (mvT hZ (hw _ (List.mem_of_getElem? (i := 11) rfl)))) (mvT hZ (hw _ (List.mem_of_getElem? (i := 11) rfl))) (mvT hZ (hw _ (List.mem_of_getElem? (i := 10) rfl))) (by decide) (backOf (W := 0) (rm2 l Z a0 hw [] s_Move_FIRST_CHILD s_Move_CONVERSE_FIRST_CHILD s_Move_CONVERSE_NEXT_SIBLING s_Move_TO_DOCUMENT h0 n0 Z0 P10 P14 P18) hZ (hw _ (List.mem_of_getElem? (i := 12) rfl)) (hw _ (List.mem_of_getElem? (i := 6) rfl)) (by decide) (by decide)) q123a q123c (g := (mkF m 84 #[.val (.int p1), .val (.int (2 : Int32)), .val (.ref s_Move_CONVERSE_FIRST_CHILD), .val (.int (frm2 s_Move_CONVERSE_FIRST_CHILD s_Move_CONVERSE_FIRST_CHILD s_Move_CONVERSE_NEXT_SIBLING s_Move_TO_DOCUMENT)), .val (.ref s_Modality_CONVERSE_FIRST_CHILD), .val (.int (1 : Int32)), .val (.ref t2)] [(.ref s_Move_FIRST_CHILD)])) rfl (by rw [hml]; rfl) (Steps.refl _) (argsL := []) (rest := []) (lenOf pd_4 rfl) rfl (by show 2 * 0 + _ ≤ _; exact Nat.le_of_eq rfl) (hb hby at_84) (fun _ _ => ⟨rfl, e122, (by decide : 0 + 0 ≤ _), (by decide : 0 + 0 ≤ _)⟩)
    dsimp only [Pt.U, Pt.locs, Pt.cells, Pt.slots] at X123 l123 y123 z123 st123 hQ123
    subst l123 y123 z123
    obtain ⟨rfl, Nq123, e123⟩ := hQ123
    have N123 := Fr.app N122 Nq123
    refine own_go (A := _) (B := T123.setTop (mkF m 87 #[.val (.int p1), .val (.int (2 : Int32)), .val (.ref s_Move_CONVERSE_FIRST_CHILD), .val (.int (frm2 s_Move_CONVERSE_FIRST_CHILD s_Move_CONVERSE_FIRST_CHILD s_Move_CONVERSE_NEXT_SIBLING s_Move_TO_DOCUMENT)), .val (.ref s_Modality_CONVERSE_FIRST_CHILD), .val (.int (1 : Int32)), .val (.ref t2)] [(.int (frm2 s_Move_FIRST_CHILD s_Move_CONVERSE_FIRST_CHILD s_Move_CONVERSE_NEXT_SIBLING s_Move_TO_DOCUMENT))])) (fun t k => st123.trans k) ?_
    refine own_go (A := T123.setTop (mkF m 87 #[.val (.int p1), .val (.int (2 : Int32)), .val (.ref s_Move_CONVERSE_FIRST_CHILD), .val (.int (frm2 s_Move_CONVERSE_FIRST_CHILD s_Move_CONVERSE_FIRST_CHILD s_Move_CONVERSE_NEXT_SIBLING s_Move_TO_DOCUMENT)), .val (.ref s_Modality_CONVERSE_FIRST_CHILD), .val (.int (1 : Int32)), .val (.ref t2)] [(.int (frm2 s_Move_FIRST_CHILD s_Move_CONVERSE_FIRST_CHILD s_Move_CONVERSE_NEXT_SIBLING s_Move_TO_DOCUMENT))])) (B := T123.setTop (mkF m 92 #[.val (.int p1), .val (.int (2 : Int32)), .val (.ref s_Move_CONVERSE_FIRST_CHILD), .val (.int (frm2 s_Move_CONVERSE_FIRST_CHILD s_Move_CONVERSE_FIRST_CHILD s_Move_CONVERSE_NEXT_SIBLING s_Move_TO_DOCUMENT)), .val (.ref s_Modality_CONVERSE_FIRST_CHILD), .val (.int (1 : Int32)), .val (.int (frm2 s_Move_FIRST_CHILD s_Move_CONVERSE_FIRST_CHILD s_Move_CONVERSE_NEXT_SIBLING s_Move_TO_DOCUMENT))] [(.int (1 : Int32)), (.int (frm2 s_Move_CONVERSE_FIRST_CHILD s_Move_CONVERSE_FIRST_CHILD s_Move_CONVERSE_NEXT_SIBLING s_Move_TO_DOCUMENT))])) (fun t k => ?_) ?_
    · show Steps p.tables e below (T123.setTop (mkF m 87 #[.val (.int p1), .val (.int (2 : Int32)), .val (.ref s_Move_CONVERSE_FIRST_CHILD), .val (.int (frm2 s_Move_CONVERSE_FIRST_CHILD s_Move_CONVERSE_FIRST_CHILD s_Move_CONVERSE_NEXT_SIBLING s_Move_TO_DOCUMENT)), .val (.ref s_Modality_CONVERSE_FIRST_CHILD), .val (.int (1 : Int32)), .val (.ref t2)] [(.int (frm2 s_Move_FIRST_CHILD s_Move_CONVERSE_FIRST_CHILD s_Move_CONVERSE_NEXT_SIBLING s_Move_TO_DOCUMENT))])) _
      refine XS.istore X123.here hx rfl (hb hby at_87) rfl (l' := #[.val (.int p1), .val (.int (2 : Int32)), .val (.ref s_Move_CONVERSE_FIRST_CHILD), .val (.int (frm2 s_Move_CONVERSE_FIRST_CHILD s_Move_CONVERSE_FIRST_CHILD s_Move_CONVERSE_NEXT_SIBLING s_Move_TO_DOCUMENT)), .val (.ref s_Modality_CONVERSE_FIRST_CHILD), .val (.int (1 : Int32)), .val (.int (frm2 s_Move_FIRST_CHILD s_Move_CONVERSE_FIRST_CHILD s_Move_CONVERSE_NEXT_SIBLING s_Move_TO_DOCUMENT))]) rfl ?_
      show Steps p.tables e below (T123.setTop (mkF m 89 #[.val (.int p1), .val (.int (2 : Int32)), .val (.ref s_Move_CONVERSE_FIRST_CHILD), .val (.int (frm2 s_Move_CONVERSE_FIRST_CHILD s_Move_CONVERSE_FIRST_CHILD s_Move_CONVERSE_NEXT_SIBLING s_Move_TO_DOCUMENT)), .val (.ref s_Modality_CONVERSE_FIRST_CHILD), .val (.int (1 : Int32)), .val (.int (frm2 s_Move_FIRST_CHILD s_Move_CONVERSE_FIRST_CHILD s_Move_CONVERSE_NEXT_SIBLING s_Move_TO_DOCUMENT))] [])) _
      refine XS.iloadN X123.here hx rfl (hb hby at_89) rfl ?_
      show Steps p.tables e below (T123.setTop (mkF m 90 #[.val (.int p1), .val (.int (2 : Int32)), .val (.ref s_Move_CONVERSE_FIRST_CHILD), .val (.int (frm2 s_Move_CONVERSE_FIRST_CHILD s_Move_CONVERSE_FIRST_CHILD s_Move_CONVERSE_NEXT_SIBLING s_Move_TO_DOCUMENT)), .val (.ref s_Modality_CONVERSE_FIRST_CHILD), .val (.int (1 : Int32)), .val (.int (frm2 s_Move_FIRST_CHILD s_Move_CONVERSE_FIRST_CHILD s_Move_CONVERSE_NEXT_SIBLING s_Move_TO_DOCUMENT))] [(.int (frm2 s_Move_CONVERSE_FIRST_CHILD s_Move_CONVERSE_FIRST_CHILD s_Move_CONVERSE_NEXT_SIBLING s_Move_TO_DOCUMENT))])) _
      refine XS.iload X123.here hx rfl (hb hby at_90) rfl ?_
      exact k
    have hc92_124 : ((frm2 s_Move_CONVERSE_FIRST_CHILD s_Move_CONVERSE_FIRST_CHILD s_Move_CONVERSE_NEXT_SIBLING s_Move_TO_DOCUMENT) = (1 : Int32)) := by simp [frm2, ne_s_Move_FIRST_CHILD_s_Move_CONVERSE_FIRST_CHILD, ne_s_Move_FIRST_CHILD_s_Move_CONVERSE_NEXT_SIBLING, ne_s_Move_FIRST_CHILD_s_Move_TO_DOCUMENT]
    refine own_go (A := T123.setTop (mkF m 92 #[.val (.int p1), .val (.int (2 : Int32)), .val (.ref s_Move_CONVERSE_FIRST_CHILD), .val (.int (frm2 s_Move_CONVERSE_FIRST_CHILD s_Move_CONVERSE_FIRST_CHILD s_Move_CONVERSE_NEXT_SIBLING s_Move_TO_DOCUMENT)), .val (.ref s_Modality_CONVERSE_FIRST_CHILD), .val (.int (1 : Int32)), .val (.int (frm2 s_Move_FIRST_CHILD s_Move_CONVERSE_FIRST_CHILD s_Move_CONVERSE_NEXT_SIBLING s_Move_TO_DOCUMENT))] [(.int (1 : Int32)), (.int (frm2 s_Move_CONVERSE_FIRST_CHILD s_Move_CONVERSE_FIRST_CHILD s_Move_CONVERSE_NEXT_SIBLING s_Move_TO_DOCUMENT))])) (B := T123.setTop (mkF m 98 #[.val (.int p1), .val (.int (2 : Int32)), .val (.ref s_Move_CONVERSE_FIRST_CHILD), .val (.int (frm2 s_Move_CONVERSE_FIRST_CHILD s_Move_CONVERSE_FIRST_CHILD s_Move_CONVERSE_NEXT_SIBLING s_Move_TO_DOCUMENT)), .val (.ref s_Modality_CONVERSE_FIRST_CHILD), .val (.int (1 : Int32)), .val (.int (frm2 s_Move_FIRST_CHILD s_Move_CONVERSE_FIRST_CHILD s_Move_CONVERSE_NEXT_SIBLING s_Move_TO_DOCUMENT))] [(.int (frm2 s_Move_FIRST_CHILD s_Move_CONVERSE_FIRST_CHILD s_Move_CONVERSE_NEXT_SIBLING s_Move_TO_DOCUMENT)), (.int (frm2 s_Move_CONVERSE_FIRST_CHILD s_Move_CONVERSE_FIRST_CHILD s_Move_CONVERSE_NEXT_SIBLING s_Move_TO_DOCUMENT))])) (fun t k => ?_) ?_
    · show Steps p.tables e below (T123.setTop (mkF m 92 #[.val (.int p1), .val (.int (2 : Int32)), .val (.ref s_Move_CONVERSE_FIRST_CHILD), .val (.int (frm2 s_Move_CONVERSE_FIRST_CHILD s_Move_CONVERSE_FIRST_CHILD s_Move_CONVERSE_NEXT_SIBLING s_Move_TO_DOCUMENT)), .val (.ref s_Modality_CONVERSE_FIRST_CHILD), .val (.int (1 : Int32)), .val (.int (frm2 s_Move_FIRST_CHILD s_Move_CONVERSE_FIRST_CHILD s_Move_CONVERSE_NEXT_SIBLING s_Move_TO_DOCUMENT))] [(.int (1 : Int32)), (.int (frm2 s_Move_CONVERSE_FIRST_CHILD s_Move_CONVERSE_FIRST_CHILD s_Move_CONVERSE_NEXT_SIBLING s_Move_TO_DOCUMENT))])) _
      refine XS.icmpNo X123.here hx rfl (hb hby at_92) rfl (teq hc92_124).2 ?_
      show Steps p.tables e below (T123.setTop (mkF m 95 #[.val (.int p1), .val (.int (2 : Int32)), .val (.ref s_Move_CONVERSE_FIRST_CHILD), .val (.int (frm2 s_Move_CONVERSE_FIRST_CHILD s_Move_CONVERSE_FIRST_CHILD s_Move_CONVERSE_NEXT_SIBLING s_Move_TO_DOCUMENT)), .val (.ref s_Modality_CONVERSE_FIRST_CHILD), .val (.int (1 : Int32)), .val (.int (frm2 s_Move_FIRST_CHILD s_Move_CONVERSE_FIRST_CHILD s_Move_CONVERSE_NEXT_SIBLING s_Move_TO_DOCUMENT))] [])) _
      refine XS.iloadN X123.here hx rfl (hb hby at_95) rfl ?_
      show Steps p.tables e below (T123.setTop (mkF m 96 #[.val (.int p1), .val (.int (2 : Int32)), .val (.ref s_Move_CONVERSE_FIRST_CHILD), .val (.int (frm2 s_Move_CONVERSE_FIRST_CHILD s_Move_CONVERSE_FIRST_CHILD s_Move_CONVERSE_NEXT_SIBLING s_Move_TO_DOCUMENT)), .val (.ref s_Modality_CONVERSE_FIRST_CHILD), .val (.int (1 : Int32)), .val (.int (frm2 s_Move_FIRST_CHILD s_Move_CONVERSE_FIRST_CHILD s_Move_CONVERSE_NEXT_SIBLING s_Move_TO_DOCUMENT))] [(.int (frm2 s_Move_CONVERSE_FIRST_CHILD s_Move_CONVERSE_FIRST_CHILD s_Move_CONVERSE_NEXT_SIBLING s_Move_TO_DOCUMENT))])) _
      refine XS.iload X123.here hx rfl (hb hby at_96) rfl ?_
      exact k
    have hc98_125 : ¬ ((frm2 s_Move_CONVERSE_FIRST_CHILD s_Move_CONVERSE_FIRST_CHILD s_Move_CONVERSE_NEXT_SIBLING s_Move_TO_DOCUMENT) = (frm2 s_Move_FIRST_CHILD s_Move_CONVERSE_FIRST_CHILD s_Move_CONVERSE_NEXT_SIBLING s_Move_TO_DOCUMENT)) := by simp [frm2, ne_s_Move_FIRST_CHILD_s_Move_CONVERSE_FIRST_CHILD, ne_s_Move_FIRST_CHILD_s_Move_CONVERSE_NEXT_SIBLING, ne_s_Move_FIRST_CHILD_s_Move_TO_DOCUMENT]
    refine own_go (A := T123.setTop (mkF m 98 #[.val (.int p1), .val (.int (2 : Int32)), .val (.ref s_Move_CONVERSE_FIRST_CHILD), .val (.int (frm2 s_Move_CONVERSE_FIRST_CHILD s_Move_CONVERSE_FIRST_CHILD s_Move_CONVERSE_NEXT_SIBLING s_Move_TO_DOCUMENT)), .val (.ref s_Modality_CONVERSE_FIRST_CHILD), .val (.int (1 : Int32)), .val (.int (frm2 s_Move_FIRST_CHILD s_Move_CONVERSE_FIRST_CHILD s_Move_CONVERSE_NEXT_SIBLING s_Move_TO_DOCUMENT))] [(.int (frm2 s_Move_FIRST_CHILD s_Move_CONVERSE_FIRST_CHILD s_Move_CONVERSE_NEXT_SIBLING s_Move_TO_DOCUMENT)), (.int (frm2 s_Move_CONVERSE_FIRST_CHILD s_Move_CONVERSE_FIRST_CHILD s_Move_CONVERSE_NEXT_SIBLING s_Move_TO_DOCUMENT))])) (B := T123.setTop (mkF m 106 #[.val (.int p1), .val (.int (2 : Int32)), .val (.ref s_Move_CONVERSE_FIRST_CHILD), .val (.int (frm2 s_Move_CONVERSE_FIRST_CHILD s_Move_CONVERSE_FIRST_CHILD s_Move_CONVERSE_NEXT_SIBLING s_Move_TO_DOCUMENT)), .val (.ref s_Modality_CONVERSE_FIRST_CHILD), .val (.int (1 : Int32)), .val (.int (frm2 s_Move_FIRST_CHILD s_Move_CONVERSE_FIRST_CHILD s_Move_CONVERSE_NEXT_SIBLING s_Move_TO_DOCUMENT))] [(.int (1 : Int32))])) (fun t k => ?_) ?_
    · show Steps p.tables e below (T123.setTop (mkF m 98 #[.val (.int p1), .val (.int (2 : Int32)), .val (.ref s_Move_CONVERSE_FIRST_CHILD), .val (.int (frm2 s_Move_CONVERSE_FIRST_CHILD s_Move_CONVERSE_FIRST_CHILD s_Move_CONVERSE_NEXT_SIBLING s_Move_TO_DOCUMENT)), .val (.ref s_Modality_CONVERSE_FIRST_CHILD), .val (.int (1 : Int32)), .val (.int (frm2 s_Move_FIRST_CHILD s_Move_CONVERSE_FIRST_CHILD s_Move_CONVERSE_NEXT_SIBLING s_Move_TO_DOCUMENT))] [(.int (frm2 s_Move_FIRST_CHILD s_Move_CONVERSE_FIRST_CHILD s_Move_CONVERSE_NEXT_SIBLING s_Move_TO_DOCUMENT)), (.int (frm2 s_Move_CONVERSE_FIRST_CHILD s_Move_CONVERSE_FIRST_CHILD s_Move_CONVERSE_NEXT_SIBLING s_Move_TO_DOCUMENT))])) _
      refine XS.icmpNo X123.here hx rfl (hb hby at_98) rfl (feq hc98_125).1 ?_
      show Steps p.tables e below (T123.setTop (mkF m 101 #[.val (.int p1), .val (.int (2 : Int32)), .val (.ref s_Move_CONVERSE_FIRST_CHILD), .val (.int (frm2 s_Move_CONVERSE_FIRST_CHILD s_Move_CONVERSE_FIRST_CHILD s_Move_CONVERSE_NEXT_SIBLING s_Move_TO_DOCUMENT)), .val (.ref s_Modality_CONVERSE_FIRST_CHILD), .val (.int (1 : Int32)), .val (.int (frm2 s_Move_FIRST_CHILD s_Move_CONVERSE_FIRST_CHILD s_Move_CONVERSE_NEXT_SIBLING s_Move_TO_DOCUMENT))] [])) _
      refine XS.iconst X123.here hx rfl (hb hby at_101) ?_
      show Steps p.tables e below (T123.setTop (mkF m 102 #[.val (.int p1), .val (.int (2 : Int32)), .val (.ref s_Move_CONVERSE_FIRST_CHILD), .val (.int (frm2 s_Move_CONVERSE_FIRST_CHILD s_Move_CONVERSE_FIRST_CHILD s_Move_CONVERSE_NEXT_SIBLING s_Move_TO_DOCUMENT)), .val (.ref s_Modality_CONVERSE_FIRST_CHILD), .val (.int (1 : Int32)), .val (.int (frm2 s_Move_FIRST_CHILD s_Move_CONVERSE_FIRST_CHILD s_Move_CONVERSE_NEXT_SIBLING s_Move_TO_DOCUMENT))] [(.int (1 : Int32))])) _
      refine XS.goto X123.here hx rfl (pc0 := 102) (pc' := 106) rfl (hb hby at_102) (by decide) (by decide) ?_
      exact k
    obtain ⟨fs, hr, hrun, hended, hW, hsame⟩ := X123.leave (v := some (.int (1 : Int32))) (fun h => by rw [Bd.returns] at h; cases h)
    refine ⟨_, _, ?_, hrun, hended, _, _, rfl, ?_, ⟨_, rfl⟩, hW, hsame.mono (by decide) (by decide)⟩
    · show Steps p.tables e below (T123.setTop (mkF m 106 #[.val (.int p1), .val (.int (2 : Int32)), .val (.ref s_Move_CONVERSE_FIRST_CHILD), .val (.int (frm2 s_Move_CONVERSE_FIRST_CHILD s_Move_CONVERSE_FIRST_CHILD s_Move_CONVERSE_NEXT_SIBLING s_Move_TO_DOCUMENT)), .val (.ref s_Modality_CONVERSE_FIRST_CHILD), .val (.int (1 : Int32)), .val (.int (frm2 s_Move_FIRST_CHILD s_Move_CONVERSE_FIRST_CHILD s_Move_CONVERSE_NEXT_SIBLING s_Move_TO_DOCUMENT))] [(.int (1 : Int32))])) _
      exact retN X123 hx (t := .boolean) Bd.returns (by simp) (hb hby at_106) hr
    · show Qrm0 Z p1 cs fmt s_Move_FIRST_CHILD s_Move_NEXT_SIBLING s_Move_CONVERSE_FIRST_CHILD s_Move_CONVERSE_NEXT_SIBLING s_Move_TO_DOCUMENT s_Move_FROM_DOCUMENT s_Modality_FIRST_CHILD t0 v0 kk0 s_Modality_NEXT_SIBLING t1 v1 kk1 s_Modality_CONVERSE_FIRST_CHILD t2 v2 kk2 s_Modality_CONVERSE_NEXT_SIBLING t3 v3 kk3 h0 n0 _ T123.heap _
      rw [e123]
      exact ⟨rfl, N123⟩
  · rw [hk89]
    refine own_go (A := s₁.setTop (mkF m 7 #[.val (.int p1), .unset, .unset, .unset, .unset, .unset, .unset] [(.int (3 : Int32))])) (B := s₁.setTop (mkF m 9 #[.val (.int p1), .val (.int (3 : Int32)), .unset, .unset, .unset, .unset, .unset] [(.int (3 : Int32))])) (fun t k => ?_) ?_
    · show Steps p.tables e below (s₁.setTop (mkF m 7 #[.val (.int p1), .unset, .unset, .unset, .unset, .unset, .unset] [(.int (3 : Int32))])) _
      refine XS.istoreN X0.here hx rfl (hb hby at_7) rfl (l' := #[.val (.int p1), .val (.int (3 : Int32)), .unset, .unset, .unset, .unset, .unset]) rfl ?_
      show Steps p.tables e below (s₁.setTop (mkF m 8 #[.val (.int p1), .val (.int (3 : Int32)), .unset, .unset, .unset, .unset, .unset] [])) _
      refine XS.iloadN X0.here hx rfl (hb hby at_8) rfl ?_
      exact k
    obtain ⟨_, _, ⟨T126, L126, k126, n126⟩, -, X126, ⟨Lc126, hQ126, l126, y126, z126⟩, st126⟩ := Jvm.LawKit.callS X0 hx (y := (⟨"com/example/decider/decider/library/xpath/MoveUpwardPinLaw", "pick", "(I)Lcom/example/decider/decider/library/xpath/Move;"⟩ : MethodName)) hown (mvT hZ (hw _ (List.mem_of_getElem? (i := 1) rfl))) (mvT hZ (hw _ (List.mem_of_getElem? (i := 2) rfl))) (mvT hZ (hw _ (List.mem_of_getElem? (i := 3) rfl))) (mvT hZ (hw _ (List.mem_of_getElem? (i := 4) rfl))) (by decide) (backOf (W := 0) (rm1_3 l Z a0 hw [] s_Move_CONVERSE_NEXT_SIBLING h0 n0 Z0 P14) hZ (hw _ (List.mem_of_getElem? (i := 4) rfl)) (hw _ (List.mem_of_getElem? (i := 3) rfl)) (by decide) (by decide)) (g := (mkF m 9 #[.val (.int p1), .val (.int (3 : Int32)), .unset, .unset, .unset, .unset, .unset] [(.int (3 : Int32))])) rfl (by rw [hml]; rfl) (argsL := [(.int (3 : Int32))]) (rest := []) (lenOf pd_6 rfl) rfl (by show 2 * 0 + _ ≤ _; exact Nat.le_of_eq rfl) (hb hby at_9) (fun _ _ => ⟨rfl, e0, (by decide : 0 + 0 ≤ _), (by decide : 0 + 0 ≤ _)⟩)
    dsimp only [Pt.U, Pt.locs, Pt.cells, Pt.slots] at X126 l126 y126 z126 st126 hQ126
    subst l126 y126 z126
    obtain ⟨rfl, Nq126, e126⟩ := hQ126
    have N126 := Fr.app N0 Nq126
    refine own_go (A := _) (B := T126.setTop (mkF m 12 #[.val (.int p1), .val (.int (3 : Int32)), .unset, .unset, .unset, .unset, .unset] [(.ref s_Move_CONVERSE_NEXT_SIBLING)])) st126 ?_
    refine own_go (A := T126.setTop (mkF m 12 #[.val (.int p1), .val (.int (3 : Int32)), .unset, .unset, .unset, .unset, .unset] [(.ref s_Move_CONVERSE_NEXT_SIBLING)])) (B := T126.setTop (mkF m 14 #[.val (.int p1), .val (.int (3 : Int32)), .val (.ref s_Move_CONVERSE_NEXT_SIBLING), .unset, .unset, .unset, .unset] [(.ref s_Move_CONVERSE_NEXT_SIBLING)])) (fun t k => ?_) ?_
    · show Steps p.tables e below (T126.setTop (mkF m 12 #[.val (.int p1), .val (.int (3 : Int32)), .unset, .unset, .unset, .unset, .unset] [(.ref s_Move_CONVERSE_NEXT_SIBLING)])) _
      refine XS.astoreN X126.here hx rfl (hb hby at_12) rfl rfl (l' := #[.val (.int p1), .val (.int (3 : Int32)), .val (.ref s_Move_CONVERSE_NEXT_SIBLING), .unset, .unset, .unset, .unset]) rfl ?_
      show Steps p.tables e below (T126.setTop (mkF m 13 #[.val (.int p1), .val (.int (3 : Int32)), .val (.ref s_Move_CONVERSE_NEXT_SIBLING), .unset, .unset, .unset, .unset] [])) _
      refine XS.aloadN X126.here hx rfl (hb hby at_13) rfl rfl ?_
      exact k
    obtain ⟨cq127, kq127, q127a, q127b, q127c⟩ := isOf hZ e126 P15
    obtain ⟨_, _, ⟨T127, L127, k127, n127⟩, -, X127, ⟨Lc127, hQ127, l127, y127, z127⟩, st127⟩ := X126.virtualBack hx (y := (⟨"com/example/decider/decider/library/xpath/Move", "upward", "()Z"⟩ : MethodName)) (z := (⟨"com/example/decider/decider/library/xpath/Move", "upward", "()Z"⟩ : MethodName)) hown (mvT hZ (hw _ (List.mem_of_getElem? (i := 8) rfl))) (mvT hZ (hw _ (List.mem_of_getElem? (i := 9) rfl))) (notFace_of_selects (args := #[]) (mvT hZ (hw _ (List.mem_of_getElem? (i := 11) rfl)))) (mvT hZ (hw _ (List.mem_of_getElem? (i := 11) rfl))) (mvT hZ (hw _ (List.mem_of_getElem? (i := 10) rfl))) (by decide) (backOf (W := 0) (rm2 l Z a0 hw [] s_Move_CONVERSE_NEXT_SIBLING s_Move_CONVERSE_FIRST_CHILD s_Move_CONVERSE_NEXT_SIBLING s_Move_TO_DOCUMENT h0 n0 Z0 P10 P14 P18) hZ (hw _ (List.mem_of_getElem? (i := 12) rfl)) (hw _ (List.mem_of_getElem? (i := 6) rfl)) (by decide) (by decide)) q127a q127c (g := (mkF m 14 #[.val (.int p1), .val (.int (3 : Int32)), .val (.ref s_Move_CONVERSE_NEXT_SIBLING), .unset, .unset, .unset, .unset] [(.ref s_Move_CONVERSE_NEXT_SIBLING)])) rfl (by rw [hml]; rfl) (Steps.refl _) (argsL := []) (rest := []) (lenOf pd_4 rfl) rfl (by show 2 * 0 + _ ≤ _; exact Nat.le_of_eq rfl) (hb hby at_14) (fun _ _ => ⟨rfl, e126, (by decide : 0 + 0 ≤ _), (by decide : 0 + 0 ≤ _)⟩)
    dsimp only [Pt.U, Pt.locs, Pt.cells, Pt.slots] at X127 l127 y127 z127 st127 hQ127
    subst l127 y127 z127
    obtain ⟨rfl, Nq127, e127⟩ := hQ127
    have N127 := Fr.app N126 Nq127
    refine own_go (A := _) (B := T127.setTop (mkF m 17 #[.val (.int p1), .val (.int (3 : Int32)), .val (.ref s_Move_CONVERSE_NEXT_SIBLING), .unset, .unset, .unset, .unset] [(.int (frm2 s_Move_CONVERSE_NEXT_SIBLING s_Move_CONVERSE_FIRST_CHILD s_Move_CONVERSE_NEXT_SIBLING s_Move_TO_DOCUMENT))])) (fun t k => st127.trans k) ?_
    refine own_go (A := T127.setTop (mkF m 17 #[.val (.int p1), .val (.int (3 : Int32)), .val (.ref s_Move_CONVERSE_NEXT_SIBLING), .unset, .unset, .unset, .unset] [(.int (frm2 s_Move_CONVERSE_NEXT_SIBLING s_Move_CONVERSE_FIRST_CHILD s_Move_CONVERSE_NEXT_SIBLING s_Move_TO_DOCUMENT))])) (B := T127.setTop (mkF m 19 #[.val (.int p1), .val (.int (3 : Int32)), .val (.ref s_Move_CONVERSE_NEXT_SIBLING), .val (.int (frm2 s_Move_CONVERSE_NEXT_SIBLING s_Move_CONVERSE_FIRST_CHILD s_Move_CONVERSE_NEXT_SIBLING s_Move_TO_DOCUMENT)), .unset, .unset, .unset] [(.ref s_Move_CONVERSE_NEXT_SIBLING)])) (fun t k => ?_) ?_
    · show Steps p.tables e below (T127.setTop (mkF m 17 #[.val (.int p1), .val (.int (3 : Int32)), .val (.ref s_Move_CONVERSE_NEXT_SIBLING), .unset, .unset, .unset, .unset] [(.int (frm2 s_Move_CONVERSE_NEXT_SIBLING s_Move_CONVERSE_FIRST_CHILD s_Move_CONVERSE_NEXT_SIBLING s_Move_TO_DOCUMENT))])) _
      refine XS.istoreN X127.here hx rfl (hb hby at_17) rfl (l' := #[.val (.int p1), .val (.int (3 : Int32)), .val (.ref s_Move_CONVERSE_NEXT_SIBLING), .val (.int (frm2 s_Move_CONVERSE_NEXT_SIBLING s_Move_CONVERSE_FIRST_CHILD s_Move_CONVERSE_NEXT_SIBLING s_Move_TO_DOCUMENT)), .unset, .unset, .unset]) rfl ?_
      show Steps p.tables e below (T127.setTop (mkF m 18 #[.val (.int p1), .val (.int (3 : Int32)), .val (.ref s_Move_CONVERSE_NEXT_SIBLING), .val (.int (frm2 s_Move_CONVERSE_NEXT_SIBLING s_Move_CONVERSE_FIRST_CHILD s_Move_CONVERSE_NEXT_SIBLING s_Move_TO_DOCUMENT)), .unset, .unset, .unset] [])) _
      refine XS.aloadN X127.here hx rfl (hb hby at_18) rfl rfl ?_
      exact k
    obtain ⟨cq128, kq128, q128a, q128b, q128c⟩ := isOf hZ e127 P15
    obtain ⟨_, _, ⟨T128, L128, k128, n128⟩, -, X128, ⟨Lc128, hQ128, l128, y128, z128⟩, st128⟩ := X127.virtualBack hx (y := (⟨"com/example/decider/decider/library/xpath/Move", "modality", "()Lcom/example/decider/decider/logic/formula/Modality;"⟩ : MethodName)) (z := (⟨"com/example/decider/decider/library/xpath/Move", "modality", "()Lcom/example/decider/decider/logic/formula/Modality;"⟩ : MethodName)) hown (mvT hZ (hw _ (List.mem_of_getElem? (i := 19) rfl))) (mvT hZ (hw _ (List.mem_of_getElem? (i := 20) rfl))) (notFace_of_selects (args := #[]) (mvT hZ (hw _ (List.mem_of_getElem? (i := 22) rfl)))) (mvT hZ (hw _ (List.mem_of_getElem? (i := 22) rfl))) (mvT hZ (hw _ (List.mem_of_getElem? (i := 21) rfl))) (by decide) (backOf (W := 0) (rm3 l Z a0 hw [] s_Move_CONVERSE_NEXT_SIBLING s_Modality_CONVERSE_NEXT_SIBLING h0 n0 Z0 P17) hZ (hw _ (List.mem_of_getElem? (i := 23) rfl)) (hw _ (List.mem_of_getElem? (i := 6) rfl)) (by decide) (by decide)) q128a q128c (g := (mkF m 19 #[.val (.int p1), .val (.int (3 : Int32)), .val (.ref s_Move_CONVERSE_NEXT_SIBLING), .val (.int (frm2 s_Move_CONVERSE_NEXT_SIBLING s_Move_CONVERSE_FIRST_CHILD s_Move_CONVERSE_NEXT_SIBLING s_Move_TO_DOCUMENT)), .unset, .unset, .unset] [(.ref s_Move_CONVERSE_NEXT_SIBLING)])) rfl (by rw [hml]; rfl) (Steps.refl _) (argsL := []) (rest := []) (lenOf pd_7 rfl) rfl (by show 2 * 0 + _ ≤ _; exact Nat.le_of_eq rfl) (hb hby at_19) (fun _ _ => ⟨rfl, e127, (by decide : 0 + 0 ≤ _), (by decide : 0 + 0 ≤ _)⟩)
    dsimp only [Pt.U, Pt.locs, Pt.cells, Pt.slots] at X128 l128 y128 z128 st128 hQ128
    subst l128 y128 z128
    obtain ⟨rfl, Nq128, e128⟩ := hQ128
    have N128 := Fr.app N127 Nq128
    refine own_go (A := _) (B := T128.setTop (mkF m 22 #[.val (.int p1), .val (.int (3 : Int32)), .val (.ref s_Move_CONVERSE_NEXT_SIBLING), .val (.int (frm2 s_Move_CONVERSE_NEXT_SIBLING s_Move_CONVERSE_FIRST_CHILD s_Move_CONVERSE_NEXT_SIBLING s_Move_TO_DOCUMENT)), .unset, .unset, .unset] [(.ref s_Modality_CONVERSE_NEXT_SIBLING)])) (fun t k => st128.trans k) ?_
    refine own_go (A := T128.setTop (mkF m 22 #[.val (.int p1), .val (.int (3 : Int32)), .val (.ref s_Move_CONVERSE_NEXT_SIBLING), .val (.int (frm2 s_Move_CONVERSE_NEXT_SIBLING s_Move_CONVERSE_FIRST_CHILD s_Move_CONVERSE_NEXT_SIBLING s_Move_TO_DOCUMENT)), .unset, .unset, .unset] [(.ref s_Modality_CONVERSE_NEXT_SIBLING)])) (B := T128.setTop (mkF m 31 #[.val (.int p1), .val (.int (3 : Int32)), .val (.ref s_Move_CONVERSE_NEXT_SIBLING), .val (.int (frm2 s_Move_CONVERSE_NEXT_SIBLING s_Move_CONVERSE_FIRST_CHILD s_Move_CONVERSE_NEXT_SIBLING s_Move_TO_DOCUMENT)), .val (.ref s_Modality_CONVERSE_NEXT_SIBLING), .unset, .unset] [(.ref s_Modality_CONVERSE_NEXT_SIBLING)])) (fun t k => ?_) ?_
    · show Steps p.tables e below (T128.setTop (mkF m 22 #[.val (.int p1), .val (.int (3 : Int32)), .val (.ref s_Move_CONVERSE_NEXT_SIBLING), .val (.int (frm2 s_Move_CONVERSE_NEXT_SIBLING s_Move_CONVERSE_FIRST_CHILD s_Move_CONVERSE_NEXT_SIBLING s_Move_TO_DOCUMENT)), .unset, .unset, .unset] [(.ref s_Modality_CONVERSE_NEXT_SIBLING)])) _
      refine XS.astore X128.here hx rfl (hb hby at_22) rfl rfl (l' := #[.val (.int p1), .val (.int (3 : Int32)), .val (.ref s_Move_CONVERSE_NEXT_SIBLING), .val (.int (frm2 s_Move_CONVERSE_NEXT_SIBLING s_Move_CONVERSE_FIRST_CHILD s_Move_CONVERSE_NEXT_SIBLING s_Move_TO_DOCUMENT)), .val (.ref s_Modality_CONVERSE_NEXT_SIBLING), .unset, .unset]) rfl ?_
      show Steps p.tables e below (T128.setTop (mkF m 24 #[.val (.int p1), .val (.int (3 : Int32)), .val (.ref s_Move_CONVERSE_NEXT_SIBLING), .val (.int (frm2 s_Move_CONVERSE_NEXT_SIBLING s_Move_CONVERSE_FIRST_CHILD s_Move_CONVERSE_NEXT_SIBLING s_Move_TO_DOCUMENT)), .val (.ref s_Modality_CONVERSE_NEXT_SIBLING), .unset, .unset] [])) _
      refine XS.aload X128.here hx rfl (hb hby at_24) rfl rfl ?_
      show Steps p.tables e below (T128.setTop (mkF m 26 #[.val (.int p1), .val (.int (3 : Int32)), .val (.ref s_Move_CONVERSE_NEXT_SIBLING), .val (.int (frm2 s_Move_CONVERSE_NEXT_SIBLING s_Move_CONVERSE_FIRST_CHILD s_Move_CONVERSE_NEXT_SIBLING s_Move_TO_DOCUMENT)), .val (.ref s_Modality_CONVERSE_NEXT_SIBLING), .unset, .unset] [(.ref s_Modality_CONVERSE_NEXT_SIBLING)])) _
      refine XS.ifnullNo X128.here hx rfl (hb hby at_26) rfl ?_
      show Steps p.tables e below (T128.setTop (mkF m 29 #[.val (.int p1), .val (.int (3 : Int32)), .val (.ref s_Move_CONVERSE_NEXT_SIBLING), .val (.int (frm2 s_Move_CONVERSE_NEXT_SIBLING s_Move_CONVERSE_FIRST_CHILD s_Move_CONVERSE_NEXT_SIBLING s_Move_TO_DOCUMENT)), .val (.ref s_Modality_CONVERSE_NEXT_SIBLING), .unset, .unset] [])) _
      refine XS.aload X128.here hx rfl (hb hby at_29) rfl rfl ?_
      exact k
    obtain ⟨cq129, kq129, q129a, q129b, q129c⟩ := isOf hZ e128 P44
    obtain ⟨_, _, ⟨T129, L129, k129, n129⟩, -, X129, ⟨Lc129, hQ129, l129, y129, z129⟩, st129⟩ := X128.virtualBack hx (y := (⟨"com/example/decider/decider/logic/formula/Modality", "spelling", "()Ljava/lang/String;"⟩ : MethodName)) (z := (⟨"com/example/decider/decider/logic/formula/Modality", "spelling", "()Ljava/lang/String;"⟩ : MethodName)) hown (mvT hZ (hw _ (List.mem_of_getElem? (i := 28) rfl))) (mvT hZ (hw _ (List.mem_of_getElem? (i := 29) rfl))) (notFace_of_selects (args := #[]) (mvT hZ (hw _ (List.mem_of_getElem? (i := 31) rfl)))) (mvT hZ (hw _ (List.mem_of_getElem? (i := 31) rfl))) (mvT hZ (hw _ (List.mem_of_getElem? (i := 30) rfl))) (by decide) (backOf (W := 0) (rm4 l Z a0 hw [] s_Modality_CONVERSE_NEXT_SIBLING t3 h0 n0 Z0 P45) hZ (hw _ (List.mem_of_getElem? (i := 32) rfl)) (hw _ (List.mem_of_getElem? (i := 26) rfl)) (by decide) (by decide)) q129a q129c (g := (mkF m 31 #[.val (.int p1), .val (.int (3 : Int32)), .val (.ref s_Move_CONVERSE_NEXT_SIBLING), .val (.int (frm2 s_Move_CONVERSE_NEXT_SIBLING s_Move_CONVERSE_FIRST_CHILD s_Move_CONVERSE_NEXT_SIBLING s_Move_TO_DOCUMENT)), .val (.ref s_Modality_CONVERSE_NEXT_SIBLING), .unset, .unset] [(.ref s_Modality_CONVERSE_NEXT_SIBLING)])) rfl (by rw [hml]; rfl) (Steps.refl _) (argsL := []) (rest := []) (lenOf pd_8 rfl) rfl (by show 2 * 0 + _ ≤ _; exact Nat.le_of_eq rfl) (hb hby at_31) (fun _ _ => ⟨rfl, e128, (by decide : 0 + 0 ≤ _), (by decide : 0 + 0 ≤ _)⟩)
    dsimp only [Pt.U, Pt.locs, Pt.cells, Pt.slots] at X129 l129 y129 z129 st129 hQ129
    subst l129 y129 z129
    obtain ⟨rfl, Nq129, e129⟩ := hQ129
    have N129 := Fr.app N128 Nq129
    refine own_go (A := _) (B := T129.setTop (mkF m 34 #[.val (.int p1), .val (.int (3 : Int32)), .val (.ref s_Move_CONVERSE_NEXT_SIBLING), .val (.int (frm2 s_Move_CONVERSE_NEXT_SIBLING s_Move_CONVERSE_FIRST_CHILD s_Move_CONVERSE_NEXT_SIBLING s_Move_TO_DOCUMENT)), .val (.ref s_Modality_CONVERSE_NEXT_SIBLING), .unset, .unset] [(.ref t3)])) (fun t k => st129.trans k) ?_
    refine own_go (A := T129.setTop (mkF m 34 #[.val (.int p1), .val (.int (3 : Int32)), .val (.ref s_Move_CONVERSE_NEXT_SIBLING), .val (.int (frm2 s_Move_CONVERSE_NEXT_SIBLING s_Move_CONVERSE_FIRST_CHILD s_Move_CONVERSE_NEXT_SIBLING s_Move_TO_DOCUMENT)), .val (.ref s_Modality_CONVERSE_NEXT_SIBLING), .unset, .unset] [(.ref t3)])) (B := T129.setTop (mkF m 38 #[.val (.int p1), .val (.int (3 : Int32)), .val (.ref s_Move_CONVERSE_NEXT_SIBLING), .val (.int (frm2 s_Move_CONVERSE_NEXT_SIBLING s_Move_CONVERSE_FIRST_CHILD s_Move_CONVERSE_NEXT_SIBLING s_Move_TO_DOCUMENT)), .val (.ref s_Modality_CONVERSE_NEXT_SIBLING), .unset, .val (.ref t3)] [(.ref t3)])) (fun t k => ?_) ?_
    · show Steps p.tables e below (T129.setTop (mkF m 34 #[.val (.int p1), .val (.int (3 : Int32)), .val (.ref s_Move_CONVERSE_NEXT_SIBLING), .val (.int (frm2 s_Move_CONVERSE_NEXT_SIBLING s_Move_CONVERSE_FIRST_CHILD s_Move_CONVERSE_NEXT_SIBLING s_Move_TO_DOCUMENT)), .val (.ref s_Modality_CONVERSE_NEXT_SIBLING), .unset, .unset] [(.ref t3)])) _
      refine XS.astore X129.here hx rfl (hb hby at_34) rfl rfl (l' := #[.val (.int p1), .val (.int (3 : Int32)), .val (.ref s_Move_CONVERSE_NEXT_SIBLING), .val (.int (frm2 s_Move_CONVERSE_NEXT_SIBLING s_Move_CONVERSE_FIRST_CHILD s_Move_CONVERSE_NEXT_SIBLING s_Move_TO_DOCUMENT)), .val (.ref s_Modality_CONVERSE_NEXT_SIBLING), .unset, .val (.ref t3)]) rfl ?_
      show Steps p.tables e below (T129.setTop (mkF m 36 #[.val (.int p1), .val (.int (3 : Int32)), .val (.ref s_Move_CONVERSE_NEXT_SIBLING), .val (.int (frm2 s_Move_CONVERSE_NEXT_SIBLING s_Move_CONVERSE_FIRST_CHILD s_Move_CONVERSE_NEXT_SIBLING s_Move_TO_DOCUMENT)), .val (.ref s_Modality_CONVERSE_NEXT_SIBLING), .unset, .val (.ref t3)] [])) _
      refine XS.aload X129.here hx rfl (hb hby at_36) rfl rfl ?_
      exact k
    obtain ⟨cq130, kq130, q130a, q130b, q130c⟩ := isOf hZ e129 P46
    obtain ⟨_, _, ⟨T130, L130, k130, n130⟩, -, X130, ⟨Lc130, hQ130, l130, y130, z130⟩, st130⟩ := X129.virtualBack hx (y := (⟨"java/lang/String", "length", "()I"⟩ : MethodName)) (z := (⟨"java/lang/String", "length", "()I"⟩ : MethodName)) hown (mvT hZ (hw _ (List.mem_of_getElem? (i := 35) rfl))) (mvT hZ (hw _ (List.mem_of_getElem? (i := 36) rfl))) (notFace_of_selects (args := #[]) (mvT hZ (hw _ (List.mem_of_getElem? (i := 38) rfl)))) (mvT hZ (hw _ (List.mem_of_getElem? (i := 38) rfl))) (mvT hZ (hw _ (List.mem_of_getElem? (i := 37) rfl))) (by decide) (backOf (W := 0) (rm5_4 l Z a0 hw [] t3 cs (60 : Int32) (45 : Int32) (50 : Int32) (62 : Int32) v3 kk3 h0 n0 Z0 P46 P0 P48 P47 P49 hcs) hZ (hw _ (List.mem_of_getElem? (i := 40) rfl)) (hw _ (List.mem_of_getElem? (i := 39) rfl)) (by decide) (by decide)) q130a q130c (g := (mkF m 38 #[.val (.int p1), .val (.int (3 : Int32)), .val (.ref s_Move_CONVERSE_NEXT_SIBLING), .val (.int (frm2 s_Move_CONVERSE_NEXT_SIBLING s_Move_CONVERSE_FIRST_CHILD s_Move_CONVERSE_NEXT_SIBLING s_Move_TO_DOCUMENT)), .val (.ref s_Modality_CONVERSE_NEXT_SIBLING), .unset, .val (.ref t3)] [(.ref t3)])) rfl (by rw [hml]; rfl) (Steps.refl _) (argsL := []) (rest := []) (lenOf pd_0 rfl) rfl (by show 2 * 0 + _ ≤ _; exact Nat.le_of_eq rfl) (hb hby at_38) (fun _ _ => ⟨rfl, e129, (by decide : 0 + 0 ≤ _), (by decide : 0 + 0 ≤ _)⟩)
    dsimp only [Pt.U, Pt.locs, Pt.cells, Pt.slots] at X130 l130 y130 z130 st130 hQ130
    subst l130 y130 z130
    obtain ⟨rfl, Nq130, e130⟩ := hQ130
    have N130 := Fr.app N129 Nq130
    refine own_go (A := _) (B := T130.setTop (mkF m 41 #[.val (.int p1), .val (.int (3 : Int32)), .val (.ref s_Move_CONVERSE_NEXT_SIBLING), .val (.int (frm2 s_Move_CONVERSE_NEXT_SIBLING s_Move_CONVERSE_FIRST_CHILD s_Move_CONVERSE_NEXT_SIBLING s_Move_TO_DOCUMENT)), .val (.ref s_Modality_CONVERSE_NEXT_SIBLING), .unset, .val (.ref t3)] [(.int (4 : Int32))])) (fun t k => st130.trans k) ?_
    refine own_go (A := T130.setTop (mkF m 41 #[.val (.int p1), .val (.int (3 : Int32)), .val (.ref s_Move_CONVERSE_NEXT_SIBLING), .val (.int (frm2 s_Move_CONVERSE_NEXT_SIBLING s_Move_CONVERSE_FIRST_CHILD s_Move_CONVERSE_NEXT_SIBLING s_Move_TO_DOCUMENT)), .val (.ref s_Modality_CONVERSE_NEXT_SIBLING), .unset, .val (.ref t3)] [(.int (4 : Int32))])) (B := T130.setTop (mkF m 48 #[.val (.int p1), .val (.int (3 : Int32)), .val (.ref s_Move_CONVERSE_NEXT_SIBLING), .val (.int (frm2 s_Move_CONVERSE_NEXT_SIBLING s_Move_CONVERSE_FIRST_CHILD s_Move_CONVERSE_NEXT_SIBLING s_Move_TO_DOCUMENT)), .val (.ref s_Modality_CONVERSE_NEXT_SIBLING), .unset, .val (.ref t3)] [(.int (1 : Int32)), (.ref t3)])) (fun t k => ?_) ?_
    · show Steps p.tables e below (T130.setTop (mkF m 41 #[.val (.int p1), .val (.int (3 : Int32)), .val (.ref s_Move_CONVERSE_NEXT_SIBLING), .val (.int (frm2 s_Move_CONVERSE_NEXT_SIBLING s_Move_CONVERSE_FIRST_CHILD s_Move_CONVERSE_NEXT_SIBLING s_Move_TO_DOCUMENT)), .val (.ref s_Modality_CONVERSE_NEXT_SIBLING), .unset, .val (.ref t3)] [(.int (4 : Int32))])) _
      refine XS.iconst X130.here hx rfl (hb hby at_41) ?_
      show Steps p.tables e below (T130.setTop (mkF m 42 #[.val (.int p1), .val (.int (3 : Int32)), .val (.ref s_Move_CONVERSE_NEXT_SIBLING), .val (.int (frm2 s_Move_CONVERSE_NEXT_SIBLING s_Move_CONVERSE_FIRST_CHILD s_Move_CONVERSE_NEXT_SIBLING s_Move_TO_DOCUMENT)), .val (.ref s_Modality_CONVERSE_NEXT_SIBLING), .unset, .val (.ref t3)] [(.int (1 : Int32)), (.int (4 : Int32))])) _
      refine XS.icmpNo X130.here hx rfl (hb hby at_42) rfl (tlt (by decide : ((1 : Int32) < (4 : Int32)))).2.2.2 ?_
      show Steps p.tables e below (T130.setTop (mkF m 45 #[.val (.int p1), .val (.int (3 : Int32)), .val (.ref s_Move_CONVERSE_NEXT_SIBLING), .val (.int (frm2 s_Move_CONVERSE_NEXT_SIBLING s_Move_CONVERSE_FIRST_CHILD s_Move_CONVERSE_NEXT_SIBLING s_Move_TO_DOCUMENT)), .val (.ref s_Modality_CONVERSE_NEXT_SIBLING), .unset, .val (.ref t3)] [])) _
      refine XS.aload X130.here hx rfl (hb hby at_45) rfl rfl ?_
      show Steps p.tables e below (T130.setTop (mkF m 47 #[.val (.int p1), .val (.int (3 : Int32)), .val (.ref s_Move_CONVERSE_NEXT_SIBLING), .val (.int (frm2 s_Move_CONVERSE_NEXT_SIBLING s_Move_CONVERSE_FIRST_CHILD s_Move_CONVERSE_NEXT_SIBLING s_Move_TO_DOCUMENT)), .val (.ref s_Modality_CONVERSE_NEXT_SIBLING), .unset, .val (.ref t3)] [(.ref t3)])) _
      refine XS.iconst X130.here hx rfl (hb hby at_47) ?_
      exact k
    obtain ⟨cq132, kq132, q132a, q132b, q132c⟩ := isOf hZ e130 P46
    obtain ⟨_, _, ⟨T132, L132, k132, n132⟩, -, X132, ⟨Lc132, hQ132, l132, y132, z132⟩, st132⟩ := X130.virtualBack hx (y := (⟨"java/lang/String", "charAt", "(I)C"⟩ : MethodName)) (z := (⟨"java/lang/String", "charAt", "(I)C"⟩ : MethodName)) hown (mvT hZ (hw _ (List.mem_of_getElem? (i := 51) rfl))) (mvT hZ (hw _ (List.mem_of_getElem? (i := 52) rfl))) (notFace_of_selects (args := #[]) (mvT hZ (hw _ (List.mem_of_getElem? (i := 54) rfl)))) (mvT hZ (hw _ (List.mem_of_getElem? (i := 54) rfl))) (mvT hZ (hw _ (List.mem_of_getElem? (i := 53) rfl))) (by decide) (backOf (W := 0) (rm7_4 l Z a0 hw [] t3 cs (60 : Int32) (45 : Int32) (50 : Int32) (62 : Int32) v3 kk3 fmt h0 n0 Z0 P46 P0 P1 P48 P47 P49 hcs) hZ (hw _ (List.mem_of_getElem? (i := 55) rfl)) (hw _ (List.mem_of_getElem? (i := 39) rfl)) (by decide) (by decide)) q132a q132c (g := (mkF m 48 #[.val (.int p1), .val (.int (3 : Int32)), .val (.ref s_Move_CONVERSE_NEXT_SIBLING), .val (.int (frm2 s_Move_CONVERSE_NEXT_SIBLING s_Move_CONVERSE_FIRST_CHILD s_Move_CONVERSE_NEXT_SIBLING s_Move_TO_DOCUMENT)), .val (.ref s_Modality_CONVERSE_NEXT_SIBLING), .unset, .val (.ref t3)] [(.int (1 : Int32)), (.ref t3)])) rfl (by rw [hml]; rfl) (Steps.refl _) (argsL := [(.int (1 : Int32))]) (rest := []) (lenOf pd_9 rfl) rfl (by show 2 * 0 + _ ≤ _; exact Nat.le_of_eq rfl) (hb hby at_48) (fun _ _ => ⟨rfl, e130, (by decide : 0 + 0 ≤ _), (by decide : 0 + 0 ≤ _)⟩)
    dsimp only [Pt.U, Pt.locs, Pt.cells, Pt.slots] at X132 l132 y132 z132 st132 hQ132
    subst l132 y132 z132
    obtain ⟨rfl, Nq132, e132⟩ := hQ132
    have N132 := Fr.app N130 Nq132
    refine own_go (A := _) (B := T132.setTop (mkF m 51 #[.val (.int p1), .val (.int (3 : Int32)), .val (.ref s_Move_CONVERSE_NEXT_SIBLING), .val (.int (frm2 s_Move_CONVERSE_NEXT_SIBLING s_Move_CONVERSE_FIRST_CHILD s_Move_CONVERSE_NEXT_SIBLING s_Move_TO_DOCUMENT)), .val (.ref s_Modality_CONVERSE_NEXT_SIBLING), .unset, .val (.ref t3)] [(.int (nar .char (nar .char (((45 : Int32) &&& (255 : Int32)).toUInt32.toUInt16.toUInt32.toInt32))))])) (fun t k => st132.trans k) ?_
    refine own_go (A := T132.setTop (mkF m 51 #[.val (.int p1), .val (.int (3 : Int32)), .val (.ref s_Move_CONVERSE_NEXT_SIBLING), .val (.int (frm2 s_Move_CONVERSE_NEXT_SIBLING s_Move_CONVERSE_FIRST_CHILD s_Move_CONVERSE_NEXT_SIBLING s_Move_TO_DOCUMENT)), .val (.ref s_Modality_CONVERSE_NEXT_SIBLING), .unset, .val (.ref t3)] [(.int (nar .char (nar .char (((45 : Int32) &&& (255 : Int32)).toUInt32.toUInt16.toUInt32.toInt32))))])) (B := T132.setTop (mkF m 53 #[.val (.int p1), .val (.int (3 : Int32)), .val (.ref s_Move_CONVERSE_NEXT_SIBLING), .val (.int (frm2 s_Move_CONVERSE_NEXT_SIBLING s_Move_CONVERSE_FIRST_CHILD s_Move_CONVERSE_NEXT_SIBLING s_Move_TO_DOCUMENT)), .val (.ref s_Modality_CONVERSE_NEXT_SIBLING), .unset, .val (.ref t3)] [(.int (45 : Int32)), (.int (nar .char (nar .char (((45 : Int32) &&& (255 : Int32)).toUInt32.toUInt16.toUInt32.toInt32))))])) (fun t k => ?_) ?_
    · show Steps p.tables e below (T132.setTop (mkF m 51 #[.val (.int p1), .val (.int (3 : Int32)), .val (.ref s_Move_CONVERSE_NEXT_SIBLING), .val (.int (frm2 s_Move_CONVERSE_NEXT_SIBLING s_Move_CONVERSE_FIRST_CHILD s_Move_CONVERSE_NEXT_SIBLING s_Move_TO_DOCUMENT)), .val (.ref s_Modality_CONVERSE_NEXT_SIBLING), .unset, .val (.ref t3)] [(.int (nar .char (nar .char (((45 : Int32) &&& (255 : Int32)).toUInt32.toUInt16.toUInt32.toInt32))))])) _
      refine XS.bipush X132.here hx rfl (hb hby at_51) ?_
      exact k
    have hc53_133 : ((nar .char (nar .char (((45 : Int32) &&& (255 : Int32)).toUInt32.toUInt16.toUInt32.toInt32))) = (45 : Int32)) := by decide
    refine own_go (A := T132.setTop (mkF m 53 #[.val (.int p1), .val (.int (3 : Int32)), .val (.ref s_Move_CONVERSE_NEXT_SIBLING), .val (.int (frm2 s_Move_CONVERSE_NEXT_SIBLING s_Move_CONVERSE_FIRST_CHILD s_Move_CONVERSE_NEXT_SIBLING s_Move_TO_DOCUMENT)), .val (.ref s_Modality_CONVERSE_NEXT_SIBLING), .unset, .val (.ref t3)] [(.int (45 : Int32)), (.int (nar .char (nar .char (((45 : Int32) &&& (255 : Int32)).toUInt32.toUInt16.toUInt32.toInt32))))])) (B := T132.setTop (mkF m 81 #[.val (.int p1), .val (.int (3 : Int32)), .val (.ref s_Move_CONVERSE_NEXT_SIBLING), .val (.int (frm2 s_Move_CONVERSE_NEXT_SIBLING s_Move_CONVERSE_FIRST_CHILD s_Move_CONVERSE_NEXT_SIBLING s_Move_TO_DOCUMENT)), .val (.ref s_Modality_CONVERSE_NEXT_SIBLING), .val (.int (1 : Int32)), .val (.ref t3)] [(.ref s_Move_CONVERSE_NEXT_SIBLING)])) (fun t k => ?_) ?_
    · show Steps p.tables e below (T132.setTop (mkF m 53 #[.val (.int p1), .val (.int (3 : Int32)), .val (.ref s_Move_CONVERSE_NEXT_SIBLING), .val (.int (frm2 s_Move_CONVERSE_NEXT_SIBLING s_Move_CONVERSE_FIRST_CHILD s_Move_CONVERSE_NEXT_SIBLING s_Move_TO_DOCUMENT)), .val (.ref s_Modality_CONVERSE_NEXT_SIBLING), .unset, .val (.ref t3)] [(.int (45 : Int32)), (.int (nar .char (nar .char (((45 : Int32) &&& (255 : Int32)).toUInt32.toUInt16.toUInt32.toInt32))))])) _
      refine XS.icmpNo X132.here hx rfl (hb hby at_53) rfl (teq hc53_133).2 ?_
      show Steps p.tables e below (T132.setTop (mkF m 56 #[.val (.int p1), .val (.int (3 : Int32)), .val (.ref s_Move_CONVERSE_NEXT_SIBLING), .val (.int (frm2 s_Move_CONVERSE_NEXT_SIBLING s_Move_CONVERSE_FIRST_CHILD s_Move_CONVERSE_NEXT_SIBLING s_Move_TO_DOCUMENT)), .val (.ref s_Modality_CONVERSE_NEXT_SIBLING), .unset, .val (.ref t3)] [])) _
      refine XS.iconst X132.here hx rfl (hb hby at_56) ?_
      show Steps p.tables e below (T132.setTop (mkF m 57 #[.val (.int p1), .val (.int (3 : Int32)), .val (.ref s_Move_CONVERSE_NEXT_SIBLING), .val (.int (frm2 s_Move_CONVERSE_NEXT_SIBLING s_Move_CONVERSE_FIRST_CHILD s_Move_CONVERSE_NEXT_SIBLING s_Move_TO_DOCUMENT)), .val (.ref s_Modality_CONVERSE_NEXT_SIBLING), .unset, .val (.ref t3)] [(.int (1 : Int32))])) _
      refine XS.goto X132.here hx rfl (pc0 := 57) (pc' := 61) rfl (hb hby at_57) (by decide) (by decide) ?_
      show Steps p.tables e below (T132.setTop (mkF m 61 #[.val (.int p1), .val (.int (3 : Int32)), .val (.ref s_Move_CONVERSE_NEXT_SIBLING), .val (.int (frm2 s_Move_CONVERSE_NEXT_SIBLING s_Move_CONVERSE_FIRST_CHILD s_Move_CONVERSE_NEXT_SIBLING s_Move_TO_DOCUMENT)), .val (.ref s_Modality_CONVERSE_NEXT_SIBLING), .unset, .val (.ref t3)] [(.int (1 : Int32))])) _
      refine XS.istore X132.here hx rfl (hb hby at_61) rfl (l' := #[.val (.int p1), .val (.int (3 : Int32)), .val (.ref s_Move_CONVERSE_NEXT_SIBLING), .val (.int (frm2 s_Move_CONVERSE_NEXT_SIBLING s_Move_CONVERSE_FIRST_CHILD s_Move_CONVERSE_NEXT_SIBLING s_Move_TO_DOCUMENT)), .val (.ref s_Modality_CONVERSE_NEXT_SIBLING), .val (.int (1 : Int32)), .val (.ref t3)]) rfl ?_
      show Steps p.tables e below (T132.setTop (mkF m 63 #[.val (.int p1), .val (.int (3 : Int32)), .val (.ref s_Move_CONVERSE_NEXT_SIBLING), .val (.int (frm2 s_Move_CONVERSE_NEXT_SIBLING s_Move_CONVERSE_FIRST_CHILD s_Move_CONVERSE_NEXT_SIBLING s_Move_TO_DOCUMENT)), .val (.ref s_Modality_CONVERSE_NEXT_SIBLING), .val (.int (1 : Int32)), .val (.ref t3)] [])) _
      refine XS.goto X132.here hx rfl (pc0 := 63) (pc' := 80) rfl (hb hby at_63) (by decide) (by decide) ?_
      show Steps p.tables e below (T132.setTop (mkF m 80 #[.val (.int p1), .val (.int (3 : Int32)), .val (.ref s_Move_CONVERSE_NEXT_SIBLING), .val (.int (frm2 s_Move_CONVERSE_NEXT_SIBLING s_Move_CONVERSE_FIRST_CHILD s_Move_CONVERSE_NEXT_SIBLING s_Move_TO_DOCUMENT)), .val (.ref s_Modality_CONVERSE_NEXT_SIBLING), .val (.int (1 : Int32)), .val (.ref t3)] [])) _
      refine XS.aloadN X132.here hx rfl (hb hby at_80) rfl rfl ?_
      exact k
    obtain ⟨cq134, kq134, q134a, q134b, q134c⟩ := isOf hZ e132 P15
    obtain ⟨_, _, ⟨T134, L134, k134, n134⟩, -, X134, ⟨Lc134, hQ134, l134, y134, z134⟩, st134⟩ := X132.virtualBack hx (y := (⟨"com/example/decider/decider/library/xpath/Move", "inverse", "()Lcom/example/decider/decider/library/xpath/Move;"⟩ : MethodName)) (z := (⟨"com/example/decider/decider/library/xpath/Move", "inverse", "()Lcom/example/decider/decider/library/xpath/Move;"⟩ : MethodName)) hown (mvT hZ (hw _ (List.mem_of_getElem? (i := 73) rfl))) (mvT hZ (hw _ (List.mem_of_getElem? (i := 74) rfl))) (notFace_of_selects (args := #[]) (mvT hZ (hw _ (List.mem_of_getElem? (i := 76) rfl)))) (mvT hZ (hw _ (List.mem_of_getElem? (i := 76) rfl))) (mvT hZ (hw _ (List.mem_of_getElem? (i := 75) rfl))) (by decide) (backOf (W := 0) (rm12_3 l Z a0 hw [] s_Move_CONVERSE_NEXT_SIBLING s_Move_NEXT_SIBLING h0 n0 Z0 P15 P6 P16) hZ (hw _ (List.mem_of_getElem? (i := 77) rfl)) (hw _ (List.mem_of_getElem? (i := 6) rfl)) (by decide) (by decide)) q134a q134c (g := (mkF m 81 #[.val (.int p1), .val (.int (3 : Int32)), .val (.ref s_Move_CONVERSE_NEXT_SIBLING), .val (.int (frm2 s_Move_CONVERSE_NEXT_SIBLING s_Move_CONVERSE_FIRST_CHILD s_Move_CONVERSE_NEXT_SIBLING s_Move_TO_DOCUMENT)), .val (.ref s_Modality_CONVERSE_NEXT_SIBLING), .val (.int (1 : Int32)), .val (.ref t3)] [(.ref s_Move_CONVERSE_NEXT_SIBLING)])) rfl (by rw [hml]; rfl) (Steps.refl _) (argsL := []) (rest := []) (lenOf pd_10 rfl) rfl (by show 2 * 0 + _ ≤ _; exact Nat.le_of_eq rfl) (hb hby at_81) (fun _ _ => ⟨rfl, e132, (by decide : 0 + 0 ≤ _), (by decide : 0 + 0 ≤ _)⟩)
    dsimp only [Pt.U, Pt.locs, Pt.cells, Pt.slots] at X134 l134 y134 z134 st134 hQ134
    subst l134 y134 z134
    obtain ⟨rfl, Nq134, e134⟩ := hQ134
    have N134 := Fr.app N132 Nq134
    refine own_go (A := _) (B := T134.setTop (mkF m 84 #[.val (.int p1), .val (.int (3 : Int32)), .val (.ref s_Move_CONVERSE_NEXT_SIBLING), .val (.int (frm2 s_Move_CONVERSE_NEXT_SIBLING s_Move_CONVERSE_FIRST_CHILD s_Move_CONVERSE_NEXT_SIBLING s_Move_TO_DOCUMENT)), .val (.ref s_Modality_CONVERSE_NEXT_SIBLING), .val (.int (1 : Int32)), .val (.ref t3)] [(.ref s_Move_NEXT_SIBLING)])) (fun t k => st134.trans k) ?_
    obtain ⟨cq135, kq135, q135a, q135b, q135c⟩ := isOf hZ e134 P7
    obtain ⟨_, _, ⟨T135, L135, k135, n135⟩, -, X135, ⟨Lc135, hQ135, l135, y135, z135⟩, st135⟩ := X134.virtualBack hx (y := (⟨"com/example/decider/decider/library/xpath/Move", "upward", "()Z"⟩ : MethodName)) (z := (⟨"com/example/decider/decider/library/xpath/Move", "upward", "()Z"⟩ : MethodName)) hown (mvT hZ (hw _ (List.mem_of_getElem? (i := 8) rfl))) (mvT hZ (hw _ (List.mem_of_getElem? (i := 9) rfl))) (notFace_of_selects (args := #[]) (mvT hZ (hw _ (List.mem_of_getElem? (i := 11) rfl)))) (mvT hZ (hw _ (List.mem_of_getElem? (i := 11) rfl))) (mvT hZ (hw _ (List.mem_of_getElem? (i := 10) rfl))) (by decide) (backOf (W := 0) (rm2 l Z a0 hw [] s_Move_NEXT_SIBLING s_Move_CONVERSE_FIRST_CHILD s_Move_CONVERSE_NEXT_SIBLING s_Move_TO_DOCUMENT h0 n0 Z0 P10 P14 P18) hZ (hw _ (List.mem_of_getElem? (i := 12) rfl)) (hw _ (List.mem_of_getElem? (i := 6) rfl)) (by decide) (by decide)) q135a q135c (g := (mkF m 84 #[.val (.int p1), .val (.int (3 : Int32)), .val (.ref s_Move_CONVERSE_NEXT_SIBLING), .val (.int (frm2 s_Move_CONVERSE_NEXT_SIBLING s_Move_CONVERSE_FIRST_CHILD s_Move_CONVERSE_NEXT_SIBLING s_Move_TO_DOCUMENT)), .val (.ref s_Modality_CONVERSE_NEXT_SIBLING), .val (.int (1 : Int32)), .val (.ref t3)] [(.ref s_Move_NEXT_SIBLING)])) rfl (by rw [hml]; rfl) (Steps.refl _) (argsL := []) (rest := []) (lenOf pd_4 rfl) rfl (by show 2 * 0 + _ ≤ _; exact Nat.le_of_eq rfl) (hb hby at_84) (fun _ _ => ⟨rfl, e134, (by decide : 0 + 0 ≤ _), (by decide : 0 + 0 ≤ _)⟩)
    dsimp only [Pt.U, Pt.locs, Pt.cells, Pt.slots] at X135 l135 y135 z135 st135 hQ135
    subst l135 y135 z135
    obtain ⟨rfl, Nq135, e135⟩ := hQ135
    have N135 := Fr.app N134 Nq135
    refine own_go (A := _) (B := T135.setTop (mkF m 87 #[.val (.int p1), .val (.int (3 : Int32)), .val (.ref s_Move_CONVERSE_NEXT_SIBLING), .val (.int (frm2 s_Move_CONVERSE_NEXT_SIBLING s_Move_CONVERSE_FIRST_CHILD s_Move_CONVERSE_NEXT_SIBLING s_Move_TO_DOCUMENT)), .val (.ref s_Modality_CONVERSE_NEXT_SIBLING), .val (.int (1 : Int32)), .val (.ref t3)] [(.int (frm2 s_Move_NEXT_SIBLING s_Move_CONVERSE_FIRST_CHILD s_Move_CONVERSE_NEXT_SIBLING s_Move_TO_DOCUMENT))])) (fun t k => st135.trans k) ?_
    refine own_go (A := T135.setTop (mkF m 87 #[.val (.int p1), .val (.int (3 : Int32)), .val (.ref s_Move_CONVERSE_NEXT_SIBLING), .val (.int (frm2 s_Move_CONVERSE_NEXT_SIBLING s_Move_CONVERSE_FIRST_CHILD s_Move_CONVERSE_NEXT_SIBLING s_Move_TO_DOCUMENT)), .val (.ref s_Modality_CONVERSE_NEXT_SIBLING), .val (.int (1 : Int32)), .val (.ref t3)] [(.int (frm2 s_Move_NEXT_SIBLING s_Move_CONVERSE_FIRST_CHILD s_Move_CONVERSE_NEXT_SIBLING s_Move_TO_DOCUMENT))])) (B := T135.setTop (mkF m 92 #[.val (.int p1), .val (.int (3 : Int32)), .val (.ref s_Move_CONVERSE_NEXT_SIBLING), .val (.int (frm2 s_Move_CONVERSE_NEXT_SIBLING s_Move_CONVERSE_FIRST_CHILD s_Move_CONVERSE_NEXT_SIBLING s_Move_TO_DOCUMENT)), .val (.ref s_Modality_CONVERSE_NEXT_SIBLING), .val (.int (1 : Int32)), .val (.int (frm2 s_Move_NEXT_SIBLING s_Move_CONVERSE_FIRST_CHILD s_Move_CONVERSE_NEXT_SIBLING s_Move_TO_DOCUMENT))] [(.int (1 : Int32)), (.int (frm2 s_Move_CONVERSE_NEXT_SIBLING s_Move_CONVERSE_FIRST_CHILD s_Move_CONVERSE_NEXT_SIBLING s_Move_TO_DOCUMENT))])) (fun t k => ?_) ?_
    · show Steps p.tables e below (T135.setTop (mkF m 87 #[.val (.int p1), .val (.int (3 : Int32)), .val (.ref s_Move_CONVERSE_NEXT_SIBLING), .val (.int (frm2 s_Move_CONVERSE_NEXT_SIBLING s_Move_CONVERSE_FIRST_CHILD s_Move_CONVERSE_NEXT_SIBLING s_Move_TO_DOCUMENT)), .val (.ref s_Modality_CONVERSE_NEXT_SIBLING), .val (.int (1 : Int32)), .val (.ref t3)] [(.int (frm2 s_Move_NEXT_SIBLING s_Move_CONVERSE_FIRST_CHILD s_Move_CONVERSE_NEXT_SIBLING s_Move_TO_DOCUMENT))])) _
      refine XS.istore X135.here hx rfl (hb hby at_87) rfl (l' := #[.val (.int p1), .val (.int (3 : Int32)), .val (.ref s_Move_CONVERSE_NEXT_SIBLING), .val (.int (frm2 s_Move_CONVERSE_NEXT_SIBLING s_Move_CONVERSE_FIRST_CHILD s_Move_CONVERSE_NEXT_SIBLING s_Move_TO_DOCUMENT)), .val (.ref s_Modality_CONVERSE_NEXT_SIBLING), .val (.int (1 : Int32)), .val (.int (frm2 s_Move_NEXT_SIBLING s_Move_CONVERSE_FIRST_CHILD s_Move_CONVERSE_NEXT_SIBLING s_Move_TO_DOCUMENT))]) rfl ?_
      show Steps p.tables e below (T135.setTop (mkF m 89 #[.val (.int p1), .val (.int (3 : Int32)), .val (.ref s_Move_CONVERSE_NEXT_SIBLING), .val (.int (frm2 s_Move_CONVERSE_NEXT_SIBLING s_Move_CONVERSE_FIRST_CHILD s_Move_CONVERSE_NEXT_SIBLING s_Move_TO_DOCUMENT)), .val (.ref s_Modality_CONVERSE_NEXT_SIBLING), .val (.int (1 : Int32)), .val (.int (frm2 s_Move_NEXT_SIBLING s_Move_CONVERSE_FIRST_CHILD s_Move_CONVERSE_NEXT_SIBLING s_Move_TO_DOCUMENT))] [])) _
      refine XS.iloadN X135.here hx rfl (hb hby at_89) rfl ?_
      show Steps p.tables e below (T135.setTop (mkF m 90 #[.val (.int p1), .val (.int (3 : Int32)), .val (.ref s_Move_CONVERSE_NEXT_SIBLING), .val (.int (frm2 s_Move_CONVERSE_NEXT_SIBLING s_Move_CONVERSE_FIRST_CHILD s_Move_CONVERSE_NEXT_SIBLING s_Move_TO_DOCUMENT)), .val (.ref s_Modality_CONVERSE_NEXT_SIBLING), .val (.int (1 : Int32)), .val (.int (frm2 s_Move_NEXT_SIBLING s_Move_CONVERSE_FIRST_CHILD s_Move_CONVERSE_NEXT_SIBLING s_Move_TO_DOCUMENT))] [(.int (frm2 s_Move_CONVERSE_NEXT_SIBLING s_Move_CONVERSE_FIRST_CHILD s_Move_CONVERSE_NEXT_SIBLING s_Move_TO_DOCUMENT))])) _
      refine XS.iload X135.here hx rfl (hb hby at_90) rfl ?_
      exact k
    have hc92_136 : ((frm2 s_Move_CONVERSE_NEXT_SIBLING s_Move_CONVERSE_FIRST_CHILD s_Move_CONVERSE_NEXT_SIBLING s_Move_TO_DOCUMENT) = (1 : Int32)) := by simp [frm2, ne_s_Move_NEXT_SIBLING_s_Move_CONVERSE_FIRST_CHILD, ne_s_Move_NEXT_SIBLING_s_Move_CONVERSE_NEXT_SIBLING, ne_s_Move_NEXT_SIBLING_s_Move_TO_DOCUMENT, ne_s_Move_CONVERSE_NEXT_SIBLING_s_Move_CONVERSE_FIRST_CHILD]
    refine own_go (A := T135.setTop (mkF m 92 #[.val (.int p1), .val (.int (3 : Int32)), .val (.ref s_Move_CONVERSE_NEXT_SIBLING), .val (.int (frm2 s_Move_CONVERSE_NEXT_SIBLING s_Move_CONVERSE_FIRST_CHILD s_Move_CONVERSE_NEXT_SIBLING s_Move_TO_DOCUMENT)), .val (.ref s_Modality_CONVERSE_NEXT_SIBLING), .val (.int (1 : Int32)), .val (.int (frm2 s_Move_NEXT_SIBLING s_Move_CONVERSE_FIRST_CHILD s_Move_CONVERSE_NEXT_SIBLING s_Move_TO_DOCUMENT))] [(.int (1 : Int32)), (.int (frm2 s_Move_CONVERSE_NEXT_SIBLING s_Move_CONVERSE_FIRST_CHILD s_Move_CONVERSE_NEXT_SIBLING s_Move_TO_DOCUMENT))])) (B := T135.setTop (mkF m 98 #[.val (.int p1), .val (.int (3 : Int32)), .val (.ref s_Move_CONVERSE_NEXT_SIBLING), .val (.int (frm2 s_Move_CONVERSE_NEXT_SIBLING s_Move_CONVERSE_FIRST_CHILD s_Move_CONVERSE_NEXT_SIBLING s_Move_TO_DOCUMENT)), .val (.ref s_Modality_CONVERSE_NEXT_SIBLING), .val (.int (1 : Int32)), .val (.int (frm2 s_Move_NEXT_SIBLING s_Move_CONVERSE_FIRST_CHILD s_Move_CONVERSE_NEXT_SIBLING s_Move_TO_DOCUMENT))] [(.int (frm2 s_Move_NEXT_SIBLING s_Move_CONVERSE_FIRST_CHILD s_Move_CONVERSE_NEXT_SIBLING s_Move_TO_DOCUMENT)), (.int (frm2 s_Move_CONVERSE_NEXT_SIBLING s_Move_CONVERSE_FIRST_CHILD s_Move_CONVERSE_NEXT_SIBLING s_Move_TO_DOCUMENT))])) (fun t k => ?_) ?_
    · show Steps p.tables e below (T135.setTop (mkF m 92 #[.val (.int p1), .val (.int (3 : Int32)), .val (.ref s_Move_CONVERSE_NEXT_SIBLING), .val (.int (frm2 s_Move_CONVERSE_NEXT_SIBLING s_Move_CONVERSE_FIRST_CHILD s_Move_CONVERSE_NEXT_SIBLING s_Move_TO_DOCUMENT)), .val (.ref s_Modality_CONVERSE_NEXT_SIBLING), .val (.int (1 : Int32)), .val (.int (frm2 s_Move_NEXT_SIBLING s_Move_CONVERSE_FIRST_CHILD s_Move_CONVERSE_NEXT_SIBLING s_Move_TO_DOCUMENT))] [(.int (1 : Int32)), (.int (frm2 s_Move_CONVERSE_NEXT_SIBLING s_Move_CONVERSE_FIRST_CHILD s_Move_CONVERSE_NEXT_SIBLING s_Move_TO_DOCUMENT))])) _
      refine XS.icmpNo X135.here hx rfl (hb hby at_92) rfl (teq hc92_136).2 ?_
      show Steps p.tables e below (T135.setTop (mkF m 95 #[.val (.int p1), .val (.int (3 : Int32)), .val (.ref s_Move_CONVERSE_NEXT_SIBLING), .val (.int (frm2 s_Move_CONVERSE_NEXT_SIBLING s_Move_CONVERSE_FIRST_CHILD s_Move_CONVERSE_NEXT_SIBLING s_Move_TO_DOCUMENT)), .val (.ref s_Modality_CONVERSE_NEXT_SIBLING), .val (.int (1 : Int32)), .val (.int (frm2 s_Move_NEXT_SIBLING s_Move_CONVERSE_FIRST_CHILD s_Move_CONVERSE_NEXT_SIBLING s_Move_TO_DOCUMENT))] [])) _
      refine XS.iloadN X135.here hx rfl (hb hby at_95) rfl ?_
      show Steps p.tables e below (T135.setTop (mkF m 96 #[.val (.int p1), .val (.int (3 : Int32)), .val (.ref s_Move_CONVERSE_NEXT_SIBLING), .val (.int (frm2 s_Move_CONVERSE_NEXT_SIBLING s_Move_CONVERSE_FIRST_CHILD s_Move_CONVERSE_NEXT_SIBLING s_Move_TO_DOCUMENT)), .val (.ref s_Modality_CONVERSE_NEXT_SIBLING), .val (.int (1 : Int32)), .val (.int (frm2 s_Move_NEXT_SIBLING s_Move_CONVERSE_FIRST_CHILD s_Move_CONVERSE_NEXT_SIBLING s_Move_TO_DOCUMENT))] [(.int (frm2 s_Move_CONVERSE_NEXT_SIBLING s_Move_CONVERSE_FIRST_CHILD s_Move_CONVERSE_NEXT_SIBLING s_Move_TO_DOCUMENT))])) _
      refine XS.iload X135.here hx rfl (hb hby at_96) rfl ?_
      exact k
    have hc98_137 : ¬ ((frm2 s_Move_CONVERSE_NEXT_SIBLING s_Move_CONVERSE_FIRST_CHILD s_Move_CONVERSE_NEXT_SIBLING s_Move_TO_DOCUMENT) = (frm2 s_Move_NEXT_SIBLING s_Move_CONVERSE_FIRST_CHILD s_Move_CONVERSE_NEXT_SIBLING s_Move_TO_DOCUMENT)) := by simp [frm2, ne_s_Move_NEXT_SIBLING_s_Move_CONVERSE_FIRST_CHILD, ne_s_Move_NEXT_SIBLING_s_Move_CONVERSE_NEXT_SIBLING, ne_s_Move_NEXT_SIBLING_s_Move_TO_DOCUMENT, ne_s_Move_CONVERSE_NEXT_SIBLING_s_Move_CONVERSE_FIRST_CHILD]
    refine own_go (A := T135.setTop (mkF m 98 #[.val (.int p1), .val (.int (3 : Int32)), .val (.ref s_Move_CONVERSE_NEXT_SIBLING), .val (.int (frm2 s_Move_CONVERSE_NEXT_SIBLING s_Move_CONVERSE_FIRST_CHILD s_Move_CONVERSE_NEXT_SIBLING s_Move_TO_DOCUMENT)), .val (.ref s_Modality_CONVERSE_NEXT_SIBLING), .val (.int (1 : Int32)), .val (.int (frm2 s_Move_NEXT_SIBLING s_Move_CONVERSE_FIRST_CHILD s_Move_CONVERSE_NEXT_SIBLING s_Move_TO_DOCUMENT))] [(.int (frm2 s_Move_NEXT_SIBLING s_Move_CONVERSE_FIRST_CHILD s_Move_CONVERSE_NEXT_SIBLING s_Move_TO_DOCUMENT)), (.int (frm2 s_Move_CONVERSE_NEXT_SIBLING s_Move_CONVERSE_FIRST_CHILD s_Move_CONVERSE_NEXT_SIBLING s_Move_TO_DOCUMENT))])) (B := T135.setTop (mkF m 106 #[.val (.int p1), .val (.int (3 : Int32)), .val (.ref s_Move_CONVERSE_NEXT_SIBLING), .val (.int (frm2 s_Move_CONVERSE_NEXT_SIBLING s_Move_CONVERSE_FIRST_CHILD s_Move_CONVERSE_NEXT_SIBLING s_Move_TO_DOCUMENT)), .val (.ref s_Modality_CONVERSE_NEXT_SIBLING), .val (.int (1 : Int32)), .val (.int (frm2 s_Move_NEXT_SIBLING s_Move_CONVERSE_FIRST_CHILD s_Move_CONVERSE_NEXT_SIBLING s_Move_TO_DOCUMENT))] [(.int (1 : Int32))])) (fun t k => ?_) ?_
    · show Steps p.tables e below (T135.setTop (mkF m 98 #[.val (.int p1), .val (.int (3 : Int32)), .val (.ref s_Move_CONVERSE_NEXT_SIBLING), .val (.int (frm2 s_Move_CONVERSE_NEXT_SIBLING s_Move_CONVERSE_FIRST_CHILD s_Move_CONVERSE_NEXT_SIBLING s_Move_TO_DOCUMENT)), .val (.ref s_Modality_CONVERSE_NEXT_SIBLING), .val (.int (1 : Int32)), .val (.int (frm2 s_Move_NEXT_SIBLING s_Move_CONVERSE_FIRST_CHILD s_Move_CONVERSE_NEXT_SIBLING s_Move_TO_DOCUMENT))] [(.int (frm2 s_Move_NEXT_SIBLING s_Move_CONVERSE_FIRST_CHILD s_Move_CONVERSE_NEXT_SIBLING s_Move_TO_DOCUMENT)), (.int (frm2 s_Move_CONVERSE_NEXT_SIBLING s_Move_CONVERSE_FIRST_CHILD s_Move_CONVERSE_NEXT_SIBLING s_Move_TO_DOCUMENT))])) _
      refine XS.icmpNo X135.here hx rfl (hb hby at_98) rfl (feq hc98_137).1 ?_
      show Steps p.tables e below (T135.setTop (mkF m 101 #[.val (.int p1), .val (.int (3 : Int32)), .val (.ref s_Move_CONVERSE_NEXT_SIBLING), .val (.int (frm2 s_Move_CONVERSE_NEXT_SIBLING s_Move_CONVERSE_FIRST_CHILD s_Move_CONVERSE_NEXT_SIBLING s_Move_TO_DOCUMENT)), .val (.ref s_Modality_CONVERSE_NEXT_SIBLING), .val (.int (1 : Int32)), .val (.int (frm2 s_Move_NEXT_SIBLING s_Move_CONVERSE_FIRST_CHILD s_Move_CONVERSE_NEXT_SIBLING s_Move_TO_DOCUMENT))] [])) _
      refine XS.iconst X135.here hx rfl (hb hby at_101) ?_
      show Steps p.tables e below (T135.setTop (mkF m 102 #[.val (.int p1), .val (.int (3 : Int32)), .val (.ref s_Move_CONVERSE_NEXT_SIBLING), .val (.int (frm2 s_Move_CONVERSE_NEXT_SIBLING s_Move_CONVERSE_FIRST_CHILD s_Move_CONVERSE_NEXT_SIBLING s_Move_TO_DOCUMENT)), .val (.ref s_Modality_CONVERSE_NEXT_SIBLING), .val (.int (1 : Int32)), .val (.int (frm2 s_Move_NEXT_SIBLING s_Move_CONVERSE_FIRST_CHILD s_Move_CONVERSE_NEXT_SIBLING s_Move_TO_DOCUMENT))] [(.int (1 : Int32))])) _
      refine XS.goto X135.here hx rfl (pc0 := 102) (pc' := 106) rfl (hb hby at_102) (by decide) (by decide) ?_
      exact k
    obtain ⟨fs, hr, hrun, hended, hW, hsame⟩ := X135.leave (v := some (.int (1 : Int32))) (fun h => by rw [Bd.returns] at h; cases h)
    refine ⟨_, _, ?_, hrun, hended, _, _, rfl, ?_, ⟨_, rfl⟩, hW, hsame.mono (by decide) (by decide)⟩
    · show Steps p.tables e below (T135.setTop (mkF m 106 #[.val (.int p1), .val (.int (3 : Int32)), .val (.ref s_Move_CONVERSE_NEXT_SIBLING), .val (.int (frm2 s_Move_CONVERSE_NEXT_SIBLING s_Move_CONVERSE_FIRST_CHILD s_Move_CONVERSE_NEXT_SIBLING s_Move_TO_DOCUMENT)), .val (.ref s_Modality_CONVERSE_NEXT_SIBLING), .val (.int (1 : Int32)), .val (.int (frm2 s_Move_NEXT_SIBLING s_Move_CONVERSE_FIRST_CHILD s_Move_CONVERSE_NEXT_SIBLING s_Move_TO_DOCUMENT))] [(.int (1 : Int32))])) _
      exact retN X135 hx (t := .boolean) Bd.returns (by simp) (hb hby at_106) hr
    · show Qrm0 Z p1 cs fmt s_Move_FIRST_CHILD s_Move_NEXT_SIBLING s_Move_CONVERSE_FIRST_CHILD s_Move_CONVERSE_NEXT_SIBLING s_Move_TO_DOCUMENT s_Move_FROM_DOCUMENT s_Modality_FIRST_CHILD t0 v0 kk0 s_Modality_NEXT_SIBLING t1 v1 kk1 s_Modality_CONVERSE_FIRST_CHILD t2 v2 kk2 s_Modality_CONVERSE_NEXT_SIBLING t3 v3 kk3 h0 n0 _ T135.heap _
      rw [e135]
      exact ⟨rfl, N135⟩
  · rw [hk89]
    refine own_go (A := s₁.setTop (mkF m 7 #[.val (.int p1), .unset, .unset, .unset, .unset, .unset, .unset] [(.int (4 : Int32))])) (B := s₁.setTop (mkF m 9 #[.val (.int p1), .val (.int (4 : Int32)), .unset, .unset, .unset, .unset, .unset] [(.int (4 : Int32))])) (fun t k => ?_) ?_
    · show Steps p.tables e below (s₁.setTop (mkF m 7 #[.val (.int p1), .unset, .unset, .unset, .unset, .unset, .unset] [(.int (4 : Int32))])) _
      refine XS.istoreN X0.here hx rfl (hb hby at_7) rfl (l' := #[.val (.int p1), .val (.int (4 : Int32)), .unset, .unset, .unset, .unset, .unset]) rfl ?_
      show Steps p.tables e below (s₁.setTop (mkF m 8 #[.val (.int p1), .val (.int (4 : Int32)), .unset, .unset, .unset, .unset, .unset] [])) _
      refine XS.iloadN X0.here hx rfl (hb hby at_8) rfl ?_
      exact k
    obtain ⟨_, _, ⟨T138, L138, k138, n138⟩, -, X138, ⟨Lc138, hQ138, l138, y138, z138⟩, st138⟩ := Jvm.LawKit.callS X0 hx (y := (⟨"com/example/decider/decider/library/xpath/MoveUpwardPinLaw", "pick", "(I)Lcom/example/decider/decider/library/xpath/Move;"⟩ : MethodName)) hown (mvT hZ (hw _ (List.mem_of_getElem? (i := 1) rfl))) (mvT hZ (hw _ (List.mem_of_getElem? (i := 2) rfl))) (mvT hZ (hw _ (List.mem_of_getElem? (i := 3) rfl))) (mvT hZ (hw _ (List.mem_of_getElem? (i := 4) rfl))) (by decide) (backOf (W := 0) (rm1_4 l Z a0 hw [] s_Move_TO_DOCUMENT h0 n0 Z0 P18) hZ (hw _ (List.mem_of_getElem? (i := 4) rfl)) (hw _ (List.mem_of_getElem? (i := 3) rfl)) (by decide) (by decide)) (g := (mkF m 9 #[.val (.int p1), .val (.int (4 : Int32)), .unset, .unset, .unset, .unset, .unset] [(.int (4 : Int32))])) rfl (by rw [hml]; rfl) (argsL := [(.int (4 : Int32))]) (rest := []) (lenOf pd_6 rfl) rfl (by show 2 * 0 + _ ≤ _; exact Nat.le_of_eq rfl) (hb hby at_9) (fun _ _ => ⟨rfl, e0, (by decide : 0 + 0 ≤ _), (by decide : 0 + 0 ≤ _)⟩)
    dsimp only [Pt.U, Pt.locs, Pt.cells, Pt.slots] at X138 l138 y138 z138 st138 hQ138
    subst l138 y138 z138
    obtain ⟨rfl, Nq138, e138⟩ := hQ138
    have N138 := Fr.app N0 Nq138
    refine own_go (A := _) (B := T138.setTop (mkF m 12 #[.val (.int p1), .val (.int (4 : Int32)), .unset, .unset, .unset, .unset, .unset] [(.ref s_Move_TO_DOCUMENT)])) st138 ?_
    refine own_go (A := T138.setTop (mkF m 12 #[.val (.int p1), .val (.int (4 : Int32)), .unset, .unset, .unset, .unset, .unset] [(.ref s_Move_TO_DOCUMENT)])) (B := T138.setTop (mkF m 14 #[.val (.int p1), .val (.int (4 : Int32)), .val (.ref s_Move_TO_DOCUMENT), .unset, .unset, .unset, .unset] [(.ref s_Move_TO_DOCUMENT)])) (fun t k => ?_) ?_
    · show Steps p.tables e below (T138.setTop (mkF m 12 #[.val (.int p1), .val (.int (4 : Int32)), .unset, .unset, .unset, .unset, .unset] [(.ref s_Move_TO_DOCUMENT)])) _
      refine XS.astoreN X138.here hx rfl (hb hby at_12) rfl rfl (l' := #[.val (.int p1), .val (.int (4 : Int32)), .val (.ref s_Move_TO_DOCUMENT), .unset, .unset, .unset, .unset]) rfl ?_
      show Steps p.tables e below (T138.setTop (mkF m 13 #[.val (.int p1), .val (.int (4 : Int32)), .val (.ref s_Move_TO_DOCUMENT), .unset, .unset, .unset, .unset] [])) _
      refine XS.aloadN X138.here hx rfl (hb hby at_13) rfl rfl ?_
      exact k
    obtain ⟨cq139, kq139, q139a, q139b, q139c⟩ := isOf hZ e138 P19
    obtain ⟨_, _, ⟨T139, L139, k139, n139⟩, -, X139, ⟨Lc139, hQ139, l139, y139, z139⟩, st139⟩ := X138.virtualBack hx (y := (⟨"com/example/decider/decider/library/xpath/Move", "upward", "()Z"⟩ : MethodName)) (z := (⟨"com/example/decider/decider/library/xpath/Move", "upward", "()Z"⟩ : MethodName)) hown (mvT hZ (hw _ (List.mem_of_getElem? (i := 8) rfl))) (mvT hZ (hw _ (List.mem_of_getElem? (i := 9) rfl))) (notFace_of_selects (args := #[]) (mvT hZ (hw _ (List.mem_of_getElem? (i := 11) rfl)))) (mvT hZ (hw _ (List.mem_of_getElem? (i := 11) rfl))) (mvT hZ (hw _ (List.mem_of_getElem? (i := 10) rfl))) (by decide) (backOf (W := 0) (rm2 l Z a0 hw [] s_Move_TO_DOCUMENT s_Move_CONVERSE_FIRST_CHILD s_Move_CONVERSE_NEXT_SIBLING s_Move_TO_DOCUMENT h0 n0 Z0 P10 P14 P18) hZ (hw _ (List.mem_of_getElem? (i := 12) rfl)) (hw _ (List.mem_of_getElem? (i := 6) rfl)) (by decide) (by decide)) q139a q139c (g := (mkF m 14 #[.val (.int p1), .val (.int (4 : Int32)), .val (.ref s_Move_TO_DOCUMENT), .unset, .unset, .unset, .unset] [(.ref s_Move_TO_DOCUMENT)])) rfl (by rw [hml]; rfl) (Steps.refl _) (argsL := []) (rest := []) (lenOf pd_4 rfl) rfl (by show 2 * 0 + _ ≤ _; exact Nat.le_of_eq rfl) (hb hby at_14) (fun _ _ => ⟨rfl, e138, (by decide : 0 + 0 ≤ _), (by decide : 0 + 0 ≤ _)⟩)
    dsimp only [Pt.U, Pt.locs, Pt.cells, Pt.slots] at X139 l139 y139 z139 st139 hQ139
    subst l139 y139 z139
    obtain ⟨rfl, Nq139, e139⟩ := hQ139
    have N139 := Fr.app N138 Nq139
    refine own_go (A := _) (B := T139.setTop (mkF m 17 #[.val (.int p1), .val (.int (4 : Int32)), .val (.ref s_Move_TO_DOCUMENT), .unset, .unset, .unset, .unset] [(.int (frm2 s_Move_TO_DOCUMENT s_Move_CONVERSE_FIRST_CHILD s_Move_CONVERSE_NEXT_SIBLING s_Move_TO_DOCUMENT))])) (fun t k => st139.trans k) ?_
    refine own_go (A := T139.setTop (mkF m 17 #[.val (.int p1), .val (.int (4 : Int32)), .val (.ref s_Move_TO_DOCUMENT), .unset, .unset, .unset, .unset] [(.int (frm2 s_Move_TO_DOCUMENT s_Move_CONVERSE_FIRST_CHILD s_Move_CONVERSE_NEXT_SIBLING s_Move_TO_DOCUMENT))])) (B := T139.setTop (mkF m 19 #[.val (.int p1), .val (.int (4 : Int32)), .val (.ref s_Move_TO_DOCUMENT), .val (.int (frm2 s_Move_TO_DOCUMENT s_Move_CONVERSE_FIRST_CHILD s_Move_CONVERSE_NEXT_SIBLING s_Move_TO_DOCUMENT)), .unset, .unset, .unset] [(.ref s_Move_TO_DOCUMENT)])) (fun t k => ?_) ?_
    · show Steps p.tables e below (T139.setTop (mkF m 17 #[.val (.int p1), .val (.int (4 : Int32)), .val (.ref s_Move_TO_DOCUMENT), .unset, .unset, .unset, .unset] [(.int (frm2 s_Move_TO_DOCUMENT s_Move_CONVERSE_FIRST_CHILD s_Move_CONVERSE_NEXT_SIBLING s_Move_TO_DOCUMENT))])) _
      refine XS.istoreN X139.here hx rfl (hb hby at_17) rfl (l' := #[.val (.int p1), .val (.int (4 : Int32)), .val (.ref s_Move_TO_DOCUMENT), .val (.int (frm2 s_Move_TO_DOCUMENT s_Move_CONVERSE_FIRST_CHILD s_Move_CONVERSE_NEXT_SIBLING s_Move_TO_DOCUMENT)), .unset, .unset, .unset]) rfl ?_
      show Steps p.tables e below (T139.setTop (mkF m 18 #[.val (.int p1), .val (.int (4 : Int32)), .val (.ref s_Move_TO_DOCUMENT), .val (.int (frm2 s_Move_TO_DOCUMENT s_Move_CONVERSE_FIRST_CHILD s_Move_CONVERSE_NEXT_SIBLING s_Move_TO_DOCUMENT)), .unset, .unset, .unset] [])) _
      refine XS.aloadN X139.here hx rfl (hb hby at_18) rfl rfl ?_
      exact k
    obtain ⟨cq140, kq140, q140a, q140b, q140c⟩ := isOf hZ e139 P19
    obtain ⟨_, _, ⟨T140, L140, k140, n140⟩, -, X140, ⟨Lc140, hQ140, l140, y140, z140⟩, st140⟩ := X139.virtualBack hx (y := (⟨"com/example/decider/decider/library/xpath/Move", "modality", "()Lcom/example/decider/decider/logic/formula/Modality;"⟩ : MethodName)) (z := (⟨"com/example/decider/decider/library/xpath/Move", "modality", "()Lcom/example/decider/decider/logic/formula/Modality;"⟩ : MethodName)) hown (mvT hZ (hw _ (List.mem_of_getElem? (i := 19) rfl))) (mvT hZ (hw _ (List.mem_of_getElem? (i := 20) rfl))) (notFace_of_selects (args := #[]) (mvT hZ (hw _ (List.mem_of_getElem? (i := 22) rfl)))) (mvT hZ (hw _ (List.mem_of_getElem? (i := 22) rfl))) (mvT hZ (hw _ (List.mem_of_getElem? (i := 21) rfl))) (by decide) (backOf (W := 0) (rm3n l Z a0 hw [] s_Move_TO_DOCUMENT h0 n0 Z0 P21) hZ (hw _ (List.mem_of_getElem? (i := 23) rfl)) (hw _ (List.mem_of_getElem? (i := 6) rfl)) (by decide) (by decide)) q140a q140c (g := (mkF m 19 #[.val (.int p1), .val (.int (4 : Int32)), .val (.ref s_Move_TO_DOCUMENT), .val (.int (frm2 s_Move_TO_DOCUMENT s_Move_CONVERSE_FIRST_CHILD s_Move_CONVERSE_NEXT_SIBLING s_Move_TO_DOCUMENT)), .unset, .unset, .unset] [(.ref s_Move_TO_DOCUMENT)])) rfl (by rw [hml]; rfl) (Steps.refl _) (argsL := []) (rest := []) (lenOf pd_7 rfl) rfl (by show 2 * 0 + _ ≤ _; exact Nat.le_of_eq rfl) (hb hby at_19) (fun _ _ => ⟨rfl, e139, (by decide : 0 + 0 ≤ _), (by decide : 0 + 0 ≤ _)⟩)
    dsimp only [Pt.U, Pt.locs, Pt.cells, Pt.slots] at X140 l140 y140 z140 st140 hQ140
    subst l140 y140 z140
    obtain ⟨rfl, Nq140, e140⟩ := hQ140
    have N140 := Fr.app N139 Nq140
    refine own_go (A := _) (B := T140.setTop (mkF m 22 #[.val (.int p1), .val (.int (4 : Int32)), .val (.ref s_Move_TO_DOCUMENT), .val (.int (frm2 s_Move_TO_DOCUMENT s_Move_CONVERSE_FIRST_CHILD s_Move_CONVERSE_NEXT_SIBLING s_Move_TO_DOCUMENT)), .unset, .unset, .unset] [.null])) (fun t k => st140.trans k) ?_
    refine own_go (A := T140.setTop (mkF m 22 #[.val (.int p1), .val (.int (4 : Int32)), .val (.ref s_Move_TO_DOCUMENT), .val (.int (frm2 s_Move_TO_DOCUMENT s_Move_CONVERSE_FIRST_CHILD s_Move_CONVERSE_NEXT_SIBLING s_Move_TO_DOCUMENT)), .unset, .unset, .unset] [.null])) (B := T140.setTop (mkF m 67 #[.val (.int p1), .val (.int (4 : Int32)), .val (.ref s_Move_TO_DOCUMENT), .val (.int (frm2 s_Move_TO_DOCUMENT s_Move_CONVERSE_FIRST_CHILD s_Move_CONVERSE_NEXT_SIBLING s_Move_TO_DOCUMENT)), .val .null, .unset, .unset] [(.ref s_Move_TO_DOCUMENT)])) (fun t k => ?_) ?_
    · show Steps p.tables e below (T140.setTop (mkF m 22 #[.val (.int p1), .val (.int (4 : Int32)), .val (.ref s_Move_TO_DOCUMENT), .val (.int (frm2 s_Move_TO_DOCUMENT s_Move_CONVERSE_FIRST_CHILD s_Move_CONVERSE_NEXT_SIBLING s_Move_TO_DOCUMENT)), .unset, .unset, .unset] [.null])) _
      refine XS.astore X140.here hx rfl (hb hby at_22) rfl rfl (l' := #[.val (.int p1), .val (.int (4 : Int32)), .val (.ref s_Move_TO_DOCUMENT), .val (.int (frm2 s_Move_TO_DOCUMENT s_Move_CONVERSE_FIRST_CHILD s_Move_CONVERSE_NEXT_SIBLING s_Move_TO_DOCUMENT)), .val .null, .unset, .unset]) rfl ?_
      show Steps p.tables e below (T140.setTop (mkF m 24 #[.val (.int p1), .val (.int (4 : Int32)), .val (.ref s_Move_TO_DOCUMENT), .val (.int (frm2 s_Move_TO_DOCUMENT s_Move_CONVERSE_FIRST_CHILD s_Move_CONVERSE_NEXT_SIBLING s_Move_TO_DOCUMENT)), .val .null, .unset, .unset] [])) _
      refine XS.aload X140.here hx rfl (hb hby at_24) rfl rfl ?_
      show Steps p.tables e below (T140.setTop (mkF m 26 #[.val (.int p1), .val (.int (4 : Int32)), .val (.ref s_Move_TO_DOCUMENT), .val (.int (frm2 s_Move_TO_DOCUMENT s_Move_CONVERSE_FIRST_CHILD s_Move_CONVERSE_NEXT_SIBLING s_Move_TO_DOCUMENT)), .val .null, .unset, .unset] [.null])) _
      refine XS.ifnullYes X140.here hx rfl (pc0 := 26) (pc' := 66) rfl (hb hby at_26) rfl (by decide) (by decide) ?_
      show Steps p.tables e below (T140.setTop (mkF m 66 #[.val (.int p1), .val (.int (4 : Int32)), .val (.ref s_Move_TO_DOCUMENT), .val (.int (frm2 s_Move_TO_DOCUMENT s_Move_CONVERSE_FIRST_CHILD s_Move_CONVERSE_NEXT_SIBLING s_Move_TO_DOCUMENT)), .val .null, .unset, .unset] [])) _
      refine XS.aloadN X140.here hx rfl (hb hby at_66) rfl rfl ?_
      exact k
    obtain ⟨T141, X141, e141, st141⟩ := getS2 X140 hx hZ hown (host := "") (Or.inl (hw _ (List.mem_of_getElem? (i := 98) rfl))) Via.refl e140 P18 (g := (mkF m 67 #[.val (.int p1), .val (.int (4 : Int32)), .val (.ref s_Move_TO_DOCUMENT), .val (.int (frm2 s_Move_TO_DOCUMENT s_Move_CONVERSE_FIRST_CHILD s_Move_CONVERSE_NEXT_SIBLING s_Move_TO_DOCUMENT)), .val .null, .unset, .unset] [(.ref s_Move_TO_DOCUMENT)])) rfl (hb hby at_67)
    refine own_go st141 ?_
    refine own_go (A := T141.setTop (mkF m 70 #[.val (.int p1), .val (.int (4 : Int32)), .val (.ref s_Move_TO_DOCUMENT), .val (.int (frm2 s_Move_TO_DOCUMENT s_Move_CONVERSE_FIRST_CHILD s_Move_CONVERSE_NEXT_SIBLING s_Move_TO_DOCUMENT)), .val .null, .unset, .unset] [(.ref s_Move_TO_DOCUMENT), (.ref s_Move_TO_DOCUMENT)])) (B := T141.setTop (mkF m 81 #[.val (.int p1), .val (.int (4 : Int32)), .val (.ref s_Move_TO_DOCUMENT), .val (.int (frm2 s_Move_TO_DOCUMENT s_Move_CONVERSE_FIRST_CHILD s_Move_CONVERSE_NEXT_SIBLING s_Move_TO_DOCUMENT)), .val .null, .val (.int (1 : Int32)), .unset] [(.ref s_Move_TO_DOCUMENT)])) (fun t k => ?_) ?_
    · show Steps p.tables e below (T141.setTop (mkF m 70 #[.val (.int p1), .val (.int (4 : Int32)), .val (.ref s_Move_TO_DOCUMENT), .val (.int (frm2 s_Move_TO_DOCUMENT s_Move_CONVERSE_FIRST_CHILD s_Move_CONVERSE_NEXT_SIBLING s_Move_TO_DOCUMENT)), .val .null, .unset, .unset] [(.ref s_Move_TO_DOCUMENT), (.ref s_Move_TO_DOCUMENT)])) _
      refine Jvm.RoadKit.acmp (g := (mkF m 70 #[.val (.int p1), .val (.int (4 : Int32)), .val (.ref s_Move_TO_DOCUMENT), .val (.int (frm2 s_Move_TO_DOCUMENT s_Move_CONVERSE_FIRST_CHILD s_Move_CONVERSE_NEXT_SIBLING s_Move_TO_DOCUMENT)), .val .null, .unset, .unset] [(.ref s_Move_TO_DOCUMENT), (.ref s_Move_TO_DOCUMENT)])) X141 hx rfl rfl rfl (pc0 := 70) (pc' := 73) (same := true) rfl (hb hby at_70) rfl (decide_eq_true rfl) (by decide) (by decide) ?_
      show Steps p.tables e below (T141.setTop (mkF m 73 #[.val (.int p1), .val (.int (4 : Int32)), .val (.ref s_Move_TO_DOCUMENT), .val (.int (frm2 s_Move_TO_DOCUMENT s_Move_CONVERSE_FIRST_CHILD s_Move_CONVERSE_NEXT_SIBLING s_Move_TO_DOCUMENT)), .val .null, .unset, .unset] [])) _
      refine XS.iconst X141.here hx rfl (hb hby at_73) ?_
      show Steps p.tables e below (T141.setTop (mkF m 74 #[.val (.int p1), .val (.int (4 : Int32)), .val (.ref s_Move_TO_DOCUMENT), .val (.int (frm2 s_Move_TO_DOCUMENT s_Move_CONVERSE_FIRST_CHILD s_Move_CONVERSE_NEXT_SIBLING s_Move_TO_DOCUMENT)), .val .null, .unset, .unset] [(.int (1 : Int32))])) _
      refine XS.goto X141.here hx rfl (pc0 := 74) (pc' := 78) rfl (hb hby at_74) (by decide) (by decide) ?_
      show Steps p.tables e below (T141.setTop (mkF m 78 #[.val (.int p1), .val (.int (4 : Int32)), .val (.ref s_Move_TO_DOCUMENT), .val (.int (frm2 s_Move_TO_DOCUMENT s_Move_CONVERSE_FIRST_CHILD s_Move_CONVERSE_NEXT_SIBLING s_Move_TO_DOCUMENT)), .val .null, .unset, .unset] [(.int (1 : Int32))])) _
      refine XS.istore X141.here hx rfl (hb hby at_78) rfl (l' := #[.val (.int p1), .val (.int (4 : Int32)), .val (.ref s_Move_TO_DOCUMENT), .val (.int (frm2 s_Move_TO_DOCUMENT s_Move_CONVERSE_FIRST_CHILD s_Move_CONVERSE_NEXT_SIBLING s_Move_TO_DOCUMENT)), .val .null, .val (.int (1 : Int32)), .unset]) rfl ?_
      show Steps p.tables e below (T141.setTop (mkF m 80 #[.val (.int p1), .val (.int (4 : Int32)), .val (.ref s_Move_TO_DOCUMENT), .val (.int (frm2 s_Move_TO_DOCUMENT s_Move_CONVERSE_FIRST_CHILD s_Move_CONVERSE_NEXT_SIBLING s_Move_TO_DOCUMENT)), .val .null, .val (.int (1 : Int32)), .unset] [])) _
      refine XS.aloadN X141.here hx rfl (hb hby at_80) rfl rfl ?_
      exact k
    obtain ⟨cq142, kq142, q142a, q142b, q142c⟩ := isOf hZ e141 P19
    obtain ⟨_, _, ⟨T142, L142, k142, n142⟩, -, X142, ⟨Lc142, hQ142, l142, y142, z142⟩, st142⟩ := X141.virtualBack hx (y := (⟨"com/example/decider/decider/library/xpath/Move", "inverse", "()Lcom/example/decider/decider/library/xpath/Move;"⟩ : MethodName)) (z := (⟨"com/example/decider/decider/library/xpath/Move", "inverse", "()Lcom/example/decider/decider/library/xpath/Move;"⟩ : MethodName)) hown (mvT hZ (hw _ (List.mem_of_getElem? (i := 73) rfl))) (mvT hZ (hw _ (List.mem_of_getElem? (i := 74) rfl))) (notFace_of_selects (args := #[]) (mvT hZ (hw _ (List.mem_of_getElem? (i := 76) rfl)))) (mvT hZ (hw _ (List.mem_of_getElem? (i := 76) rfl))) (mvT hZ (hw _ (List.mem_of_getElem? (i := 75) rfl))) (by decide) (backOf (W := 0) (rm12_4 l Z a0 hw [] s_Move_TO_DOCUMENT s_Move_FROM_DOCUMENT h0 n0 Z0 P19 P22 P20) hZ (hw _ (List.mem_of_getElem? (i := 77) rfl)) (hw _ (List.mem_of_getElem? (i := 6) rfl)) (by decide) (by decide)) q142a q142c (g := (mkF m 81 #[.val (.int p1), .val (.int (4 : Int32)), .val (.ref s_Move_TO_DOCUMENT), .val (.int (frm2 s_Move_TO_DOCUMENT s_Move_CONVERSE_FIRST_CHILD s_Move_CONVERSE_NEXT_SIBLING s_Move_TO_DOCUMENT)), .val .null, .val (.int (1 : Int32)), .unset] [(.ref s_Move_TO_DOCUMENT)])) rfl (by rw [hml]; rfl) (Steps.refl _) (argsL := []) (rest := []) (lenOf pd_10 rfl) rfl (by show 2 * 0 + _ ≤ _; exact Nat.le_of_eq rfl) (hb hby at_81) (fun _ _ => ⟨rfl, e141, (by decide : 0 + 0 ≤ _), (by decide : 0 + 0 ≤ _)⟩)
    dsimp only [Pt.U, Pt.locs, Pt.cells, Pt.slots] at X142 l142 y142 z142 st142 hQ142
    subst l142 y142 z142
    obtain ⟨rfl, Nq142, e142⟩ := hQ142
    have N142 := Fr.app N140 Nq142
    refine own_go (A := _) (B := T142.setTop (mkF m 84 #[.val (.int p1), .val (.int (4 : Int32)), .val (.ref s_Move_TO_DOCUMENT), .val (.int (frm2 s_Move_TO_DOCUMENT s_Move_CONVERSE_FIRST_CHILD s_Move_CONVERSE_NEXT_SIBLING s_Move_TO_DOCUMENT)), .val .null, .val (.int (1 : Int32)), .unset] [(.ref s_Move_FROM_DOCUMENT)])) (fun t k => st142.trans k) ?_
    obtain ⟨cq143, kq143, q143a, q143b, q143c⟩ := isOf hZ e142 P23
    obtain ⟨_, _, ⟨T143, L143, k143, n143⟩, -, X143, ⟨Lc143, hQ143, l143, y143, z143⟩, st143⟩ := X142.virtualBack hx (y := (⟨"com/example/decider/decider/library/xpath/Move", "upward", "()Z"⟩ : MethodName)) (z := (⟨"com/example/decider/decider/library/xpath/Move", "upward", "()Z"⟩ : MethodName)) hown (mvT hZ (hw _ (List.mem_of_getElem? (i := 8) rfl))) (mvT hZ (hw _ (List.mem_of_getElem? (i := 9) rfl))) (notFace_of_selects (args := #[]) (mvT hZ (hw _ (List.mem_of_getElem? (i := 11) rfl)))) (mvT hZ (hw _ (List.mem_of_getElem? (i := 11) rfl))) (mvT hZ (hw _ (List.mem_of_getElem? (i := 10) rfl))) (by decide) (backOf (W := 0) (rm2 l Z a0 hw [] s_Move_FROM_DOCUMENT s_Move_CONVERSE_FIRST_CHILD s_Move_CONVERSE_NEXT_SIBLING s_Move_TO_DOCUMENT h0 n0 Z0 P10 P14 P18) hZ (hw _ (List.mem_of_getElem? (i := 12) rfl)) (hw _ (List.mem_of_getElem? (i := 6) rfl)) (by decide) (by decide)) q143a q143c (g := (mkF m 84 #[.val (.int p1), .val (.int (4 : Int32)), .val (.ref s_Move_TO_DOCUMENT), .val (.int (frm2 s_Move_TO_DOCUMENT s_Move_CONVERSE_FIRST_CHILD s_Move_CONVERSE_NEXT_SIBLING s_Move_TO_DOCUMENT)), .val .null, .val (.int (1 : Int32)), .unset] [(.ref s_Move_FROM_DOCUMENT)])) rfl (by rw [hml]; rfl) (Steps.refl _) (argsL := []) (rest := []) (lenOf pd_4 rfl) rfl (by show 2 * 0 + _ ≤ _; exact Nat.le_of_eq rfl) (hb hby at_84) (fun _ _ => ⟨rfl, e142, (by decide : 0 + 0 ≤ _), (by decide : 0 + 0 ≤ _)⟩)
    dsimp only [Pt.U, Pt.locs, Pt.cells, Pt.slots] at X143 l143 y143 z143 st143 hQ143
    subst l143 y143 z143
    obtain ⟨rfl, Nq143, e143⟩ := hQ143
    have N143 := Fr.app N142 Nq143
    refine own_go (A := _) (B := T143.setTop (mkF m 87 #[.val (.int p1), .val (.int (4 : Int32)), .val (.ref s_Move_TO_DOCUMENT), .val (.int (frm2 s_Move_TO_DOCUMENT s_Move_CONVERSE_FIRST_CHILD s_Move_CONVERSE_NEXT_SIBLING s_Move_TO_DOCUMENT)), .val .null, .val (.int (1 : Int32)), .unset] [(.int (frm2 s_Move_FROM_DOCUMENT s_Move_CONVERSE_FIRST_CHILD s_Move_CONVERSE_NEXT_SIBLING s_Move_TO_DOCUMENT))])) (fun t k => st143.trans k) ?_
    refine own_go (A := T143.setTop (mkF m 87 #[.val (.int p1), .val (.int (4 : Int32)), .val (.ref s_Move_TO_DOCUMENT), .val (.int (frm2 s_Move_TO_DOCUMENT s_Move_CONVERSE_FIRST_CHILD s_Move_CONVERSE_NEXT_SIBLING s_Move_TO_DOCUMENT)), .val .null, .val (.int (1 : Int32)), .unset] [(.int (frm2 s_Move_FROM_DOCUMENT s_Move_CONVERSE_FIRST_CHILD s_Move_CONVERSE_NEXT_SIBLING s_Move_TO_DOCUMENT))])) (B := T143.setTop (mkF m 92 #[.val (.int p1), .val (.int (4 : Int32)), .val (.ref s_Move_TO_DOCUMENT), .val (.int (frm2 s_Move_TO_DOCUMENT s_Move_CONVERSE_FIRST_CHILD s_Move_CONVERSE_NEXT_SIBLING s_Move_TO_DOCUMENT)), .val .null, .val (.int (1 : Int32)), .val (.int (frm2 s_Move_FROM_DOCUMENT s_Move_CONVERSE_FIRST_CHILD s_Move_CONVERSE_NEXT_SIBLING s_Move_TO_DOCUMENT))] [(.int (1 : Int32)), (.int (frm2 s_Move_TO_DOCUMENT s_Move_CONVERSE_FIRST_CHILD s_Move_CONVERSE_NEXT_SIBLING s_Move_TO_DOCUMENT))])) (fun t k => ?_) ?_
    · show Steps p.tables e below (T143.setTop (mkF m 87 #[.val (.int p1), .val (.int (4 : Int32)), .val (.ref s_Move_TO_DOCUMENT), .val (.int (frm2 s_Move_TO_DOCUMENT s_Move_CONVERSE_FIRST_CHILD s_Move_CONVERSE_NEXT_SIBLING s_Move_TO_DOCUMENT)), .val .null, .val (.int (1 : Int32)), .unset] [(.int (frm2 s_Move_FROM_DOCUMENT s_Move_CONVERSE_FIRST_CHILD s_Move_CONVERSE_NEXT_SIBLING s_Move_TO_DOCUMENT))])) _
      refine XS.istore X143.here hx rfl (hb hby at_87) rfl (l' := #[.val (.int p1), .val (.int (4 : Int32)), .val (.ref s_Move_TO_DOCUMENT), .val (.int (frm2 s_Move_TO_DOCUMENT s_Move_CONVERSE_FIRST_CHILD s_Move_CONVERSE_NEXT_SIBLING s_Move_TO_DOCUMENT)), .val .null, .val (.int (1 : Int32)), .val (.int (frm2 s_Move_FROM_DOCUMENT s_Move_CONVERSE_FIRST_CHILD s_Move_CONVERSE_NEXT_SIBLING s_Move_TO_DOCUMENT))]) rfl ?_
      show Steps p.tables e below (T143.setTop (mkF m 89 #[.val (.int p1), .val (.int (4 : Int32)), .val (.ref s_Move_TO_DOCUMENT), .val (.int (frm2 s_Move_TO_DOCUMENT s_Move_CONVERSE_FIRST_CHILD s_Move_CONVERSE_NEXT_SIBLING s_Move_TO_DOCUMENT)), .val .null, .val (.int (1 : Int32)), .val (.int (frm2 s_Move_FROM_DOCUMENT s_Move_CONVERSE_FIRST_CHILD s_Move_CONVERSE_NEXT_SIBLING s_Move_TO_DOCUMENT))] [])) _
      refine XS.iloadN X143.here hx rfl (hb hby at_89) rfl ?_
      show Steps p.tables e below (T143.setTop (mkF m 90 #[.val (.int p1), .val (.int (4 : Int32)), .val (.ref s_Move_TO_DOCUMENT), .val (.int (frm2 s_Move_TO_DOCUMENT s_Move_CONVERSE_FIRST_CHILD s_Move_CONVERSE_NEXT_SIBLING s_Move_TO_DOCUMENT)), .val .null, .val (.int (1 : Int32)), .val (.int (frm2 s_Move_FROM_DOCUMENT s_Move_CONVERSE_FIRST_CHILD s_Move_CONVERSE_NEXT_SIBLING s_Move_TO_DOCUMENT))] [(.int (frm2 s_Move_TO_DOCUMENT s_Move_CONVERSE_FIRST_CHILD s_Move_CONVERSE_NEXT_SIBLING s_Move_TO_DOCUMENT))])) _
      refine XS.iload X143.here hx rfl (hb hby at_90) rfl ?_
      exact k
    have hc92_144 : ((frm2 s_Move_TO_DOCUMENT s_Move_CONVERSE_FIRST_CHILD s_Move_CONVERSE_NEXT_SIBLING s_Move_TO_DOCUMENT) = (1 : Int32)) := by simp [frm2, ne_s_Move_TO_DOCUMENT_s_Move_CONVERSE_FIRST_CHILD, ne_s_Move_TO_DOCUMENT_s_Move_CONVERSE_NEXT_SIBLING, ne_s_Move_FROM_DOCUMENT_s_Move_CONVERSE_FIRST_CHILD, ne_s_Move_FROM_DOCUMENT_s_Move_CONVERSE_NEXT_SIBLING, ne_s_Move_FROM_DOCUMENT_s_Move_TO_DOCUMENT]
    refine own_go (A := T143.setTop (mkF m 92 #[.val (.int p1), .val (.int (4 : Int32)), .val (.ref s_Move_TO_DOCUMENT), .val (.int (frm2 s_Move_TO_DOCUMENT s_Move_CONVERSE_FIRST_CHILD s_Move_CONVERSE_NEXT_SIBLING s_Move_TO_DOCUMENT)), .val .null, .val (.int (1 : Int32)), .val (.int (frm2 s_Move_FROM_DOCUMENT s_Move_CONVERSE_FIRST_CHILD s_Move_CONVERSE_NEXT_SIBLING s_Move_TO_DOCUMENT))] [(.int (1 : Int32)), (.int (frm2 s_Move_TO_DOCUMENT s_Move_CONVERSE_FIRST_CHILD s_Move_CONVERSE_NEXT_SIBLING s_Move_TO_DOCUMENT))])) (B := T143.setTop (mkF m 98 #[.val (.int p1), .val (.int (4 : Int32)), .val (.ref s_Move_TO_DOCUMENT), .val (.int (frm2 s_Move_TO_DOCUMENT s_Move_CONVERSE_FIRST_CHILD s_Move_CONVERSE_NEXT_SIBLING s_Move_TO_DOCUMENT)), .val .null, .val (.int (1 : Int32)), .val (.int (frm2 s_Move_FROM_DOCUMENT s_Move_CONVERSE_FIRST_CHILD s_Move_CONVERSE_NEXT_SIBLING s_Move_TO_DOCUMENT))] [(.int (frm2 s_Move_FROM_DOCUMENT s_Move_CONVERSE_FIRST_CHILD s_Move_CONVERSE_NEXT_SIBLING s_Move_TO_DOCUMENT)), (.int (frm2 s_Move_TO_DOCUMENT s_Move_CONVERSE_FIRST_CHILD s_Move_CONVERSE_NEXT_SIBLING s_Move_TO_DOCUMENT))])) (fun t k => ?_) ?_
    · show Steps p.tables e below (T143.setTop (mkF m 92 #[.val (.int p1), .val (.int (4 : Int32)), .val (.ref s_Move_TO_DOCUMENT), .val (.int (frm2 s_Move_TO_DOCUMENT s_Move_CONVERSE_FIRST_CHILD s_Move_CONVERSE_NEXT_SIBLING s_Move_TO_DOCUMENT)), .val .null, .val (.int (1 : Int32)), .val (.int (frm2 s_Move_FROM_DOCUMENT s_Move_CONVERSE_FIRST_CHILD s_Move_CONVERSE_NEXT_SIBLING s_Move_TO_DOCUMENT))] [(.int (1 : Int32)), (.int (frm2 s_Move_TO_DOCUMENT s_Move_CONVERSE_FIRST_CHILD s_Move_CONVERSE_NEXT_SIBLING s_Move_TO_DOCUMENT))])) _
      refine XS.icmpNo X143.here hx rfl (hb hby at_92) rfl (teq hc92_144).2 ?_
      show Steps p.tables e below (T143.setTop (mkF m 95 #[.val (.int p1), .val (.int (4 : Int32)), .val (.ref s_Move_TO_DOCUMENT), .val (.int (frm2 s_Move_TO_DOCUMENT s_Move_CONVERSE_FIRST_CHILD s_Move_CONVERSE_NEXT_SIBLING s_Move_TO_DOCUMENT)), .val .null, .val (.int (1 : Int32)), .val (.int (frm2 s_Move_FROM_DOCUMENT s_Move_CONVERSE_FIRST_CHILD s_Move_CONVERSE_NEXT_SIBLING s_Move_TO_DOCUMENT))] [])) _
      refine XS.iloadN X143.here hx rfl (hb hby at_95) rfl ?_
      show Steps p.tables e below (T143.setTop (mkF m 96 #[.val (.int p1), .val (.int (4 : Int32)), .val (.ref s_Move_TO_DOCUMENT), .val (.int (frm2 s_Move_TO_DOCUMENT s_Move_CONVERSE_FIRST_CHILD s_Move_CONVERSE_NEXT_SIBLING s_Move_TO_DOCUMENT)), .val .null, .val (.int (1 : Int32)), .val (.int (frm2 s_Move_FROM_DOCUMENT s_Move_CONVERSE_FIRST_CHILD s_Move_CONVERSE_NEXT_SIBLING s_Move_TO_DOCUMENT))] [(.int (frm2 s_Move_TO_DOCUMENT s_Move_CONVERSE_FIRST_CHILD s_Move_CONVERSE_NEXT_SIBLING s_Move_TO_DOCUMENT))])) _
      refine XS.iload X143.here hx rfl (hb hby at_96) rfl ?_
      exact k
    have hc98_145 : ¬ ((frm2 s_Move_TO_DOCUMENT s_Move_CONVERSE_FIRST_CHILD s_Move_CONVERSE_NEXT_SIBLING s_Move_TO_DOCUMENT) = (frm2 s_Move_FROM_DOCUMENT s_Move_CONVERSE_FIRST_CHILD s_Move_CONVERSE_NEXT_SIBLING s_Move_TO_DOCUMENT)) := by simp [frm2, ne_s_Move_TO_DOCUMENT_s_Move_CONVERSE_FIRST_CHILD, ne_s_Move_TO_DOCUMENT_s_Move_CONVERSE_NEXT_SIBLING, ne_s_Move_FROM_DOCUMENT_s_Move_CONVERSE_FIRST_CHILD, ne_s_Move_FROM_DOCUMENT_s_Move_CONVERSE_NEXT_SIBLING, ne_s_Move_FROM_DOCUMENT_s_Move_TO_DOCUMENT]
    refine own_go (A := T143.setTop (mkF m 98 #[.val (.int p1), .val (.int (4 : Int32)), .val (.ref s_Move_TO_DOCUMENT), .val (.int (frm2 s_Move_TO_DOCUMENT s_Move_CONVERSE_FIRST_CHILD s_Move_CONVERSE_NEXT_SIBLING s_Move_TO_DOCUMENT)), .val .null, .val (.int (1 : Int32)), .val (.int (frm2 s_Move_FROM_DOCUMENT s_Move_CONVERSE_FIRST_CHILD s_Move_CONVERSE_NEXT_SIBLING s_Move_TO_DOCUMENT))] [(.int (frm2 s_Move_FROM_DOCUMENT s_Move_CONVERSE_FIRST_CHILD s_Move_CONVERSE_NEXT_SIBLING s_Move_TO_DOCUMENT)), (.int (frm2 s_Move_TO_DOCUMENT s_Move_CONVERSE_FIRST_CHILD s_Move_CONVERSE_NEXT_SIBLING s_Move_TO_DOCUMENT))])) (B := T143.setTop (mkF m 106 #[.val (.int p1), .val (.int (4 : Int32)), .val (.ref s_Move_TO_DOCUMENT), .val (.int (frm2 s_Move_TO_DOCUMENT s_Move_CONVERSE_FIRST_CHILD s_Move_CONVERSE_NEXT_SIBLING s_Move_TO_DOCUMENT)), .val .null, .val (.int (1 : Int32)), .val (.int (frm2 s_Move_FROM_DOCUMENT s_Move_CONVERSE_FIRST_CHILD s_Move_CONVERSE_NEXT_SIBLING s_Move_TO_DOCUMENT))] [(.int (1 : Int32))])) (fun t k => ?_) ?_
    · show Steps p.tables e below (T143.setTop (mkF m 98 #[.val (.int p1), .val (.int (4 : Int32)), .val (.ref s_Move_TO_DOCUMENT), .val (.int (frm2 s_Move_TO_DOCUMENT s_Move_CONVERSE_FIRST_CHILD s_Move_CONVERSE_NEXT_SIBLING s_Move_TO_DOCUMENT)), .val .null, .val (.int (1 : Int32)), .val (.int (frm2 s_Move_FROM_DOCUMENT s_Move_CONVERSE_FIRST_CHILD s_Move_CONVERSE_NEXT_SIBLING s_Move_TO_DOCUMENT))] [(.int (frm2 s_Move_FROM_DOCUMENT s_Move_CONVERSE_FIRST_CHILD s_Move_CONVERSE_NEXT_SIBLING s_Move_TO_DOCUMENT)), (.int (frm2 s_Move_TO_DOCUMENT s_Move_CONVERSE_FIRST_CHILD s_Move_CONVERSE_NEXT_SIBLING s_Move_TO_DOCUMENT))])) _
      refine XS.icmpNo X143.here hx rfl (hb hby at_98) rfl (feq hc98_145).1 ?_
      show Steps p.tables e below (T143.setTop (mkF m 101 #[.val (.int p1), .val (.int (4 : Int32)), .val (.ref s_Move_TO_DOCUMENT), .val (.int (frm2 s_Move_TO_DOCUMENT s_Move_CONVERSE_FIRST_CHILD s_Move_CONVERSE_NEXT_SIBLING s_Move_TO_DOCUMENT)), .val .null, .val (.int (1 : Int32)), .val (.int (frm2 s_Move_FROM_DOCUMENT s_Move_CONVERSE_FIRST_CHILD s_Move_CONVERSE_NEXT_SIBLING s_Move_TO_DOCUMENT))] [])) _
      refine XS.iconst X143.here hx rfl (hb hby at_101) ?_
      show Steps p.tables e below (T143.setTop (mkF m 102 #[.val (.int p1), .val (.int (4 : Int32)), .val (.ref s_Move_TO_DOCUMENT), .val (.int (frm2 s_Move_TO_DOCUMENT s_Move_CONVERSE_FIRST_CHILD s_Move_CONVERSE_NEXT_SIBLING s_Move_TO_DOCUMENT)), .val .null, .val (.int (1 : Int32)), .val (.int (frm2 s_Move_FROM_DOCUMENT s_Move_CONVERSE_FIRST_CHILD s_Move_CONVERSE_NEXT_SIBLING s_Move_TO_DOCUMENT))] [(.int (1 : Int32))])) _
      refine XS.goto X143.here hx rfl (pc0 := 102) (pc' := 106) rfl (hb hby at_102) (by decide) (by decide) ?_
      exact k
    obtain ⟨fs, hr, hrun, hended, hW, hsame⟩ := X143.leave (v := some (.int (1 : Int32))) (fun h => by rw [Bd.returns] at h; cases h)
    refine ⟨_, _, ?_, hrun, hended, _, _, rfl, ?_, ⟨_, rfl⟩, hW, hsame.mono (by decide) (by decide)⟩
    · show Steps p.tables e below (T143.setTop (mkF m 106 #[.val (.int p1), .val (.int (4 : Int32)), .val (.ref s_Move_TO_DOCUMENT), .val (.int (frm2 s_Move_TO_DOCUMENT s_Move_CONVERSE_FIRST_CHILD s_Move_CONVERSE_NEXT_SIBLING s_Move_TO_DOCUMENT)), .val .null, .val (.int (1 : Int32)), .val (.int (frm2 s_Move_FROM_DOCUMENT s_Move_CONVERSE_FIRST_CHILD s_Move_CONVERSE_NEXT_SIBLING s_Move_TO_DOCUMENT))] [(.int (1 : Int32))])) _
      exact retN X143 hx (t := .boolean) Bd.returns (by simp) (hb hby at_106) hr
    · show Qrm0 Z p1 cs fmt s_Move_FIRST_CHILD s_Move_NEXT_SIBLING s_Move_CONVERSE_FIRST_CHILD s_Move_CONVERSE_NEXT_SIBLING s_Move_TO_DOCUMENT s_Move_FROM_DOCUMENT s_Modality_FIRST_CHILD t0 v0 kk0 s_Modality_NEXT_SIBLING t1 v1 kk1 s_Modality_CONVERSE_FIRST_CHILD t2 v2 kk2 s_Modality_CONVERSE_NEXT_SIBLING t3 v3 kk3 h0 n0 _ T143.heap _
      rw [e143]
      exact ⟨rfl, N143⟩
  · rw [hk89]
    refine own_go (A := s₁.setTop (mkF m 7 #[.val (.int p1), .unset, .unset, .unset, .unset, .unset, .unset] [(.int (5 : Int32))])) (B := s₁.setTop (mkF m 9 #[.val (.int p1), .val (.int (5 : Int32)), .unset, .unset, .unset, .unset, .unset] [(.int (5 : Int32))])) (fun t k => ?_) ?_
    · show Steps p.tables e below (s₁.setTop (mkF m 7 #[.val (.int p1), .unset, .unset, .unset, .unset, .unset, .unset] [(.int (5 : Int32))])) _
      refine XS.istoreN X0.here hx rfl (hb hby at_7) rfl (l' := #[.val (.int p1), .val (.int (5 : Int32)), .unset, .unset, .unset, .unset, .unset]) rfl ?_
      show Steps p.tables e below (s₁.setTop (mkF m 8 #[.val (.int p1), .val (.int (5 : Int32)), .unset, .unset, .unset, .unset, .unset] [])) _
      refine XS.iloadN X0.here hx rfl (hb hby at_8) rfl ?_
      exact k
    obtain ⟨_, _, ⟨T146, L146, k146, n146⟩, -, X146, ⟨Lc146, hQ146, l146, y146, z146⟩, st146⟩ := Jvm.LawKit.callS X0 hx (y := (⟨"com/example/decider/decider/library/xpath/MoveUpwardPinLaw", "pick", "(I)Lcom/example/decider/decider/library/xpath/Move;"⟩ : MethodName)) hown (mvT hZ (hw _ (List.mem_of_getElem? (i := 1) rfl))) (mvT hZ (hw _ (List.mem_of_getElem? (i := 2) rfl))) (mvT hZ (hw _ (List.mem_of_getElem? (i := 3) rfl))) (mvT hZ (hw _ (List.mem_of_getElem? (i := 4) rfl))) (by decide) (backOf (W := 0) (rm1_5 l Z a0 hw [] s_Move_FROM_DOCUMENT h0 n0 Z0 P22) hZ (hw _ (List.mem_of_getElem? (i := 4) rfl)) (hw _ (List.mem_of_getElem? (i := 3) rfl)) (by decide) (by decide)) (g := (mkF m 9 #[.val (.int p1), .val (.int (5 : Int32)), .unset, .unset, .unset, .unset, .unset] [(.int (5 : Int32))])) rfl (by rw [hml]; rfl) (argsL := [(.int (5 : Int32))]) (rest := []) (lenOf pd_6 rfl) rfl (by show 2 * 0 + _ ≤ _; exact Nat.le_of_eq rfl) (hb hby at_9) (fun _ _ => ⟨rfl, e0, (by decide : 0 + 0 ≤ _), (by decide : 0 + 0 ≤ _)⟩)
    dsimp only [Pt.U, Pt.locs, Pt.cells, Pt.slots] at X146 l146 y146 z146 st146 hQ146
    subst l146 y146 z146
    obtain ⟨rfl, Nq146, e146⟩ := hQ146
    have N146 := Fr.app N0 Nq146
    refine own_go (A := _) (B := T146.setTop (mkF m 12 #[.val (.int p1), .val (.int (5 : Int32)), .unset, .unset, .unset, .unset, .unset] [(.ref s_Move_FROM_DOCUMENT)])) st146 ?_
    refine own_go (A := T146.setTop (mkF m 12 #[.val (.int p1), .val (.int (5 : Int32)), .unset, .unset, .unset, .unset, .unset] [(.ref s_Move_FROM_DOCUMENT)])) (B := T146.setTop (mkF m 14 #[.val (.int p1), .val (.int (5 : Int32)), .val (.ref s_Move_FROM_DOCUMENT), .unset, .unset, .unset, .unset] [(.ref s_Move_FROM_DOCUMENT)])) (fun t k => ?_) ?_
    · show Steps p.tables e below (T146.setTop (mkF m 12 #[.val (.int p1), .val (.int (5 : Int32)), .unset, .unset, .unset, .unset, .unset] [(.ref s_Move_FROM_DOCUMENT)])) _
      refine XS.astoreN X146.here hx rfl (hb hby at_12) rfl rfl (l' := #[.val (.int p1), .val (.int (5 : Int32)), .val (.ref s_Move_FROM_DOCUMENT), .unset, .unset, .unset, .unset]) rfl ?_
      show Steps p.tables e below (T146.setTop (mkF m 13 #[.val (.int p1), .val (.int (5 : Int32)), .val (.ref s_Move_FROM_DOCUMENT), .unset, .unset, .unset, .unset] [])) _
      refine XS.aloadN X146.here hx rfl (hb hby at_13) rfl rfl ?_
      exact k
    obtain ⟨cq147, kq147, q147a, q147b, q147c⟩ := isOf hZ e146 P23
    obtain ⟨_, _, ⟨T147, L147, k147, n147⟩, -, X147, ⟨Lc147, hQ147, l147, y147, z147⟩, st147⟩ := X146.virtualBack hx (y := (⟨"com/example/decider/decider/library/xpath/Move", "upward", "()Z"⟩ : MethodName)) (z := (⟨"com/example/decider/decider/library/xpath/Move", "upward", "()Z"⟩ : MethodName)) hown (mvT hZ (hw _ (List.mem_of_getElem? (i := 8) rfl))) (mvT hZ (hw _ (List.mem_of_getElem? (i := 9) rfl))) (notFace_of_selects (args := #[]) (mvT hZ (hw _ (List.mem_of_getElem? (i := 11) rfl)))) (mvT hZ (hw _ (List.mem_of_getElem? (i := 11) rfl))) (mvT hZ (hw _ (List.mem_of_getElem? (i := 10) rfl))) (by decide) (backOf (W := 0) (rm2 l Z a0 hw [] s_Move_FROM_DOCUMENT s_Move_CONVERSE_FIRST_CHILD s_Move_CONVERSE_NEXT_SIBLING s_Move_TO_DOCUMENT h0 n0 Z0 P10 P14 P18) hZ (hw _ (List.mem_of_getElem? (i := 12) rfl)) (hw _ (List.mem_of_getElem? (i := 6) rfl)) (by decide) (by decide)) q147a q147c (g := (mkF m 14 #[.val (.int p1), .val (.int (5 : Int32)), .val (.ref s_Move_FROM_DOCUMENT), .unset, .unset, .unset, .unset] [(.ref s_Move_FROM_DOCUMENT)])) rfl (by rw [hml]; rfl) (Steps.refl _) (argsL := []) (rest := []) (lenOf pd_4 rfl) rfl (by show 2 * 0 + _ ≤ _; exact Nat.le_of_eq rfl) (hb hby at_14) (fun _ _ => ⟨rfl, e146, (by decide : 0 + 0 ≤ _), (by decide : 0 + 0 ≤ _)⟩)
    dsimp only [Pt.U, Pt.locs, Pt.cells, Pt.slots] at X147 l147 y147 z147 st147 hQ147
    subst l147 y147 z147
    obtain ⟨rfl, Nq147, e147⟩ := hQ147
    have N147 := Fr.app N146 Nq147
    refine own_go (A := _) (B := T147.setTop (mkF m 17 #[.val (.int p1), .val (.int (5 : Int32)), .val (.ref s_Move_FROM_DOCUMENT), .unset, .unset, .unset, .unset] [(.int (frm2 s_Move_FROM_DOCUMENT s_Move_CONVERSE_FIRST_CHILD s_Move_CONVERSE_NEXT_SIBLING s_Move_TO_DOCUMENT))])) (fun t k => st147.trans k) ?_
    refine own_go (A := T147.setTop (mkF m 17 #[.val (.int p1), .val (.int (5 : Int32)), .val (.ref s_Move_FROM_DOCUMENT), .unset, .unset, .unset, .unset] [(.int (frm2 s_Move_FROM_DOCUMENT s_Move_CONVERSE_FIRST_CHILD s_Move_CONVERSE_NEXT_SIBLING s_Move_TO_DOCUMENT))])) (B := T147.setTop (mkF m 19 #[.val (.int p1), .val (.int (5 : Int32)), .val (.ref s_Move_FROM_DOCUMENT), .val (.int (frm2 s_Move_FROM_DOCUMENT s_Move_CONVERSE_FIRST_CHILD s_Move_CONVERSE_NEXT_SIBLING s_Move_TO_DOCUMENT)), .unset, .unset, .unset] [(.ref s_Move_FROM_DOCUMENT)])) (fun t k => ?_) ?_
    · show Steps p.tables e below (T147.setTop (mkF m 17 #[.val (.int p1), .val (.int (5 : Int32)), .val (.ref s_Move_FROM_DOCUMENT), .unset, .unset, .unset, .unset] [(.int (frm2 s_Move_FROM_DOCUMENT s_Move_CONVERSE_FIRST_CHILD s_Move_CONVERSE_NEXT_SIBLING s_Move_TO_DOCUMENT))])) _
      refine XS.istoreN X147.here hx rfl (hb hby at_17) rfl (l' := #[.val (.int p1), .val (.int (5 : Int32)), .val (.ref s_Move_FROM_DOCUMENT), .val (.int (frm2 s_Move_FROM_DOCUMENT s_Move_CONVERSE_FIRST_CHILD s_Move_CONVERSE_NEXT_SIBLING s_Move_TO_DOCUMENT)), .unset, .unset, .unset]) rfl ?_
      show Steps p.tables e below (T147.setTop (mkF m 18 #[.val (.int p1), .val (.int (5 : Int32)), .val (.ref s_Move_FROM_DOCUMENT), .val (.int (frm2 s_Move_FROM_DOCUMENT s_Move_CONVERSE_FIRST_CHILD s_Move_CONVERSE_NEXT_SIBLING s_Move_TO_DOCUMENT)), .unset, .unset, .unset] [])) _
      refine XS.aloadN X147.here hx rfl (hb hby at_18) rfl rfl ?_
      exact k
    obtain ⟨cq148, kq148, q148a, q148b, q148c⟩ := isOf hZ e147 P23
    obtain ⟨_, _, ⟨T148, L148, k148, n148⟩, -, X148, ⟨Lc148, hQ148, l148, y148, z148⟩, st148⟩ := X147.virtualBack hx (y := (⟨"com/example/decider/decider/library/xpath/Move", "modality", "()Lcom/example/decider/decider/logic/formula/Modality;"⟩ : MethodName)) (z := (⟨"com/example/decider/decider/library/xpath/Move", "modality", "()Lcom/example/decider/decider/logic/formula/Modality;"⟩ : MethodName)) hown (mvT hZ (hw _ (List.mem_of_getElem? (i := 19) rfl))) (mvT hZ (hw _ (List.mem_of_getElem? (i := 20) rfl))) (notFace_of_selects (args := #[]) (mvT hZ (hw _ (List.mem_of_getElem? (i := 22) rfl)))) (mvT hZ (hw _ (List.mem_of_getElem? (i := 22) rfl))) (mvT hZ (hw _ (List.mem_of_getElem? (i := 21) rfl))) (by decide) (backOf (W := 0) (rm3n l Z a0 hw [] s_Move_FROM_DOCUMENT h0 n0 Z0 P25) hZ (hw _ (List.mem_of_getElem? (i := 23) rfl)) (hw _ (List.mem_of_getElem? (i := 6) rfl)) (by decide) (by decide)) q148a q148c (g := (mkF m 19 #[.val (.int p1), .val (.int (5 : Int32)), .val (.ref s_Move_FROM_DOCUMENT), .val (.int (frm2 s_Move_FROM_DOCUMENT s_Move_CONVERSE_FIRST_CHILD s_Move_CONVERSE_NEXT_SIBLING s_Move_TO_DOCUMENT)), .unset, .unset, .unset] [(.ref s_Move_FROM_DOCUMENT)])) rfl (by rw [hml]; rfl) (Steps.refl _) (argsL := []) (rest := []) (lenOf pd_7 rfl) rfl (by show 2 * 0 + _ ≤ _; exact Nat.le_of_eq rfl) (hb hby at_19) (fun _ _ => ⟨rfl, e147, (by decide : 0 + 0 ≤ _), (by decide : 0 + 0 ≤ _)⟩)
    dsimp only [Pt.U, Pt.locs, Pt.cells, Pt.slots] at X148 l148 y148 z148 st148 hQ148
    subst l148 y148 z148
    obtain ⟨rfl, Nq148, e148⟩ := hQ148
    have N148 := Fr.app N147 Nq148
    refine own_go (A := _) (B := T148.setTop (mkF m 22 #[.val (.int p1), .val (.int (5 : Int32)), .val (.ref s_Move_FROM_DOCUMENT), .val (.int (frm2 s_Move_FROM_DOCUMENT s_Move_CONVERSE_FIRST_CHILD s_Move_CONVERSE_NEXT_SIBLING s_Move_TO_DOCUMENT)), .unset, .unset, .unset] [.null])) (fun t k => st148.trans k) ?_
    refine own_go (A := T148.setTop (mkF m 22 #[.val (.int p1), .val (.int (5 : Int32)), .val (.ref s_Move_FROM_DOCUMENT), .val (.int (frm2 s_Move_FROM_DOCUMENT s_Move_CONVERSE_FIRST_CHILD s_Move_CONVERSE_NEXT_SIBLING s_Move_TO_DOCUMENT)), .unset, .unset, .unset] [.null])) (B := T148.setTop (mkF m 67 #[.val (.int p1), .val (.int (5 : Int32)), .val (.ref s_Move_FROM_DOCUMENT), .val (.int (frm2 s_Move_FROM_DOCUMENT s_Move_CONVERSE_FIRST_CHILD s_Move_CONVERSE_NEXT_SIBLING s_Move_TO_DOCUMENT)), .val .null, .unset, .unset] [(.ref s_Move_FROM_DOCUMENT)])) (fun t k => ?_) ?_
    · show Steps p.tables e below (T148.setTop (mkF m 22 #[.val (.int p1), .val (.int (5 : Int32)), .val (.ref s_Move_FROM_DOCUMENT), .val (.int (frm2 s_Move_FROM_DOCUMENT s_Move_CONVERSE_FIRST_CHILD s_Move_CONVERSE_NEXT_SIBLING s_Move_TO_DOCUMENT)), .unset, .unset, .unset] [.null])) _
      refine XS.astore X148.here hx rfl (hb hby at_22) rfl rfl (l' := #[.val (.int p1), .val (.int (5 : Int32)), .val (.ref s_Move_FROM_DOCUMENT), .val (.int (frm2 s_Move_FROM_DOCUMENT s_Move_CONVERSE_FIRST_CHILD s_Move_CONVERSE_NEXT_SIBLING s_Move_TO_DOCUMENT)), .val .null, .unset, .unset]) rfl ?_
      show Steps p.tables e below (T148.setTop (mkF m 24 #[.val (.int p1), .val (.int (5 : Int32)), .val (.ref s_Move_FROM_DOCUMENT), .val (.int (frm2 s_Move_FROM_DOCUMENT s_Move_CONVERSE_FIRST_CHILD s_Move_CONVERSE_NEXT_SIBLING s_Move_TO_DOCUMENT)), .val .null, .unset, .unset] [])) _
      refine XS.aload X148.here hx rfl (hb hby at_24) rfl rfl ?_
      show Steps p.tables e below (T148.setTop (mkF m 26 #[.val (.int p1), .val (.int (5 : Int32)), .val (.ref s_Move_FROM_DOCUMENT), .val (.int (frm2 s_Move_FROM_DOCUMENT s_Move_CONVERSE_FIRST_CHILD s_Move_CONVERSE_NEXT_SIBLING s_Move_TO_DOCUMENT)), .val .null, .unset, .unset] [.null])) _
      refine XS.ifnullYes X148.here hx rfl (pc0 := 26) (pc' := 66) rfl (hb hby at_26) rfl (by decide) (by decide) ?_
      show Steps p.tables e below (T148.setTop (mkF m 66 #[.val (.int p1), .val (.int (5 : Int32)), .val (.ref s_Move_FROM_DOCUMENT), .val (.int (frm2 s_Move_FROM_DOCUMENT s_Move_CONVERSE_FIRST_CHILD s_Move_CONVERSE_NEXT_SIBLING s_Move_TO_DOCUMENT)), .val .null, .unset, .unset] [])) _
      refine XS.aloadN X148.here hx rfl (hb hby at_66) rfl rfl ?_
      exact k
    obtain ⟨T149, X149, e149, st149⟩ := getS2 X148 hx hZ hown (host := "") (Or.inl (hw _ (List.mem_of_getElem? (i := 98) rfl))) Via.refl e148 P18 (g := (mkF m 67 #[.val (.int p1), .val (.int (5 : Int32)), .val (.ref s_Move_FROM_DOCUMENT), .val (.int (frm2 s_Move_FROM_DOCUMENT s_Move_CONVERSE_FIRST_CHILD s_Move_CONVERSE_NEXT_SIBLING s_Move_TO_DOCUMENT)), .val .null, .unset, .unset] [(.ref s_Move_FROM_DOCUMENT)])) rfl (hb hby at_67)
    refine own_go st149 ?_
    refine own_go (A := T149.setTop (mkF m 70 #[.val (.int p1), .val (.int (5 : Int32)), .val (.ref s_Move_FROM_DOCUMENT), .val (.int (frm2 s_Move_FROM_DOCUMENT s_Move_CONVERSE_FIRST_CHILD s_Move_CONVERSE_NEXT_SIBLING s_Move_TO_DOCUMENT)), .val .null, .unset, .unset] [(.ref s_Move_TO_DOCUMENT), (.ref s_Move_FROM_DOCUMENT)])) (B := T149.setTop (mkF m 81 #[.val (.int p1), .val (.int (5 : Int32)), .val (.ref s_Move_FROM_DOCUMENT), .val (.int (frm2 s_Move_FROM_DOCUMENT s_Move_CONVERSE_FIRST_CHILD s_Move_CONVERSE_NEXT_SIBLING s_Move_TO_DOCUMENT)), .val .null, .val (.int (0 : Int32)), .unset] [(.ref s_Move_FROM_DOCUMENT)])) (fun t k => ?_) ?_
    · show Steps p.tables e below (T149.setTop (mkF m 70 #[.val (.int p1), .val (.int (5 : Int32)), .val (.ref s_Move_FROM_DOCUMENT), .val (.int (frm2 s_Move_FROM_DOCUMENT s_Move_CONVERSE_FIRST_CHILD s_Move_CONVERSE_NEXT_SIBLING s_Move_TO_DOCUMENT)), .val .null, .unset, .unset] [(.ref s_Move_TO_DOCUMENT), (.ref s_Move_FROM_DOCUMENT)])) _
      refine Jvm.RoadKit.acmp (g := (mkF m 70 #[.val (.int p1), .val (.int (5 : Int32)), .val (.ref s_Move_FROM_DOCUMENT), .val (.int (frm2 s_Move_FROM_DOCUMENT s_Move_CONVERSE_FIRST_CHILD s_Move_CONVERSE_NEXT_SIBLING s_Move_TO_DOCUMENT)), .val .null, .unset, .unset] [(.ref s_Move_TO_DOCUMENT), (.ref s_Move_FROM_DOCUMENT)])) X149 hx rfl rfl rfl (pc0 := 70) (pc' := 77) (same := false) rfl (hb hby at_70) rfl (decide_eq_false fun q => ne_s_Move_FROM_DOCUMENT_s_Move_TO_DOCUMENT (Value.ref.inj q)) (by decide) (by decide) ?_
      show Steps p.tables e below (T149.setTop (mkF m 77 #[.val (.int p1), .val (.int (5 : Int32)), .val (.ref s_Move_FROM_DOCUMENT), .val (.int (frm2 s_Move_FROM_DOCUMENT s_Move_CONVERSE_FIRST_CHILD s_Move_CONVERSE_NEXT_SIBLING s_Move_TO_DOCUMENT)), .val .null, .unset, .unset] [])) _
      refine XS.iconst X149.here hx rfl (hb hby at_77) ?_
      show Steps p.tables e below (T149.setTop (mkF m 78 #[.val (.int p1), .val (.int (5 : Int32)), .val (.ref s_Move_FROM_DOCUMENT), .val (.int (frm2 s_Move_FROM_DOCUMENT s_Move_CONVERSE_FIRST_CHILD s_Move_CONVERSE_NEXT_SIBLING s_Move_TO_DOCUMENT)), .val .null, .unset, .unset] [(.int (0 : Int32))])) _
      refine XS.istore X149.here hx rfl (hb hby at_78) rfl (l' := #[.val (.int p1), .val (.int (5 : Int32)), .val (.ref s_Move_FROM_DOCUMENT), .val (.int (frm2 s_Move_FROM_DOCUMENT s_Move_CONVERSE_FIRST_CHILD s_Move_CONVERSE_NEXT_SIBLING s_Move_TO_DOCUMENT)), .val .null, .val (.int (0 : Int32)), .unset]) rfl ?_
      show Steps p.tables e below (T149.setTop (mkF m 80 #[.val (.int p1), .val (.int (5 : Int32)), .val (.ref s_Move_FROM_DOCUMENT), .val (.int (frm2 s_Move_FROM_DOCUMENT s_Move_CONVERSE_FIRST_CHILD s_Move_CONVERSE_NEXT_SIBLING s_Move_TO_DOCUMENT)), .val .null, .val (.int (0 : Int32)), .unset] [])) _
      refine XS.aloadN X149.here hx rfl (hb hby at_80) rfl rfl ?_
      exact k
    obtain ⟨cq150, kq150, q150a, q150b, q150c⟩ := isOf hZ e149 P23
    obtain ⟨_, _, ⟨T150, L150, k150, n150⟩, -, X150, ⟨Lc150, hQ150, l150, y150, z150⟩, st150⟩ := X149.virtualBack hx (y := (⟨"com/example/decider/decider/library/xpath/Move", "inverse", "()Lcom/example/decider/decider/library/xpath/Move;"⟩ : MethodName)) (z := (⟨"com/example/decider/decider/library/xpath/Move", "inverse", "()Lcom/example/decider/decider/library/xpath/Move;"⟩ : MethodName)) hown (mvT hZ (hw _ (List.mem_of_getElem? (i := 73) rfl))) (mvT hZ (hw _ (List.mem_of_getElem? (i := 74) rfl))) (notFace_of_selects (args := #[]) (mvT hZ (hw _ (List.mem_of_getElem? (i := 76) rfl)))) (mvT hZ (hw _ (List.mem_of_getElem? (i := 76) rfl))) (mvT hZ (hw _ (List.mem_of_getElem? (i := 75) rfl))) (by decide) (backOf (W := 0) (rm12_5 l Z a0 hw [] s_Move_FROM_DOCUMENT s_Move_TO_DOCUMENT h0 n0 Z0 P23 P18 P24) hZ (hw _ (List.mem_of_getElem? (i := 77) rfl)) (hw _ (List.mem_of_getElem? (i := 6) rfl)) (by decide) (by decide)) q150a q150c (g := (mkF m 81 #[.val (.int p1), .val (.int (5 : Int32)), .val (.ref s_Move_FROM_DOCUMENT), .val (.int (frm2 s_Move_FROM_DOCUMENT s_Move_CONVERSE_FIRST_CHILD s_Move_CONVERSE_NEXT_SIBLING s_Move_TO_DOCUMENT)), .val .null, .val (.int (0 : Int32)), .unset] [(.ref s_Move_FROM_DOCUMENT)])) rfl (by rw [hml]; rfl) (Steps.refl _) (argsL := []) (rest := []) (lenOf pd_10 rfl) rfl (by show 2 * 0 + _ ≤ _; exact Nat.le_of_eq rfl) (hb hby at_81) (fun _ _ => ⟨rfl, e149, (by decide : 0 + 0 ≤ _), (by decide : 0 + 0 ≤ _)⟩)
    dsimp only [Pt.U, Pt.locs, Pt.cells, Pt.slots] at X150 l150 y150 z150 st150 hQ150
    subst l150 y150 z150
    obtain ⟨rfl, Nq150, e150⟩ := hQ150
    have N150 := Fr.app N148 Nq150
    refine own_go (A := _) (B := T150.setTop (mkF m 84 #[.val (.int p1), .val (.int (5 : Int32)), .val (.ref s_Move_FROM_DOCUMENT), .val (.int (frm2 s_Move_FROM_DOCUMENT s_Move_CONVERSE_FIRST_CHILD s_Move_CONVERSE_NEXT_SIBLING s_Move_TO_DOCUMENT)), .val .null, .val (.int (0 : Int32)), .unset] [(.ref s_Move_TO_DOCUMENT)])) (fun t k => st150.trans k) ?_
    obtain ⟨cq151, kq151, q151a, q151b, q151c⟩ := isOf hZ e150 P19
    obtain ⟨_, _, ⟨T151, L151, k151, n151⟩, -, X151, ⟨Lc151, hQ151, l151, y151, z151⟩, st151⟩ := X150.virtualBack hx (y := (⟨"com/example/decider/decider/library/xpath/Move", "upward", "()Z"⟩ : MethodName)) (z := (⟨"com/example/decider/decider/library/xpath/Move", "upward", "()Z"⟩ : MethodName)) hown (mvT hZ (hw _ (List.mem_of_getElem? (i := 8) rfl))) (mvT hZ (hw _ (List.mem_of_getElem? (i := 9) rfl))) (notFace_of_selects (args := #[]) (mvT hZ (hw _ (List.mem_of_getElem? (i := 11) rfl)))) (mvT hZ (hw _ (List.mem_of_getElem? (i := 11) rfl))) (mvT hZ (hw _ (List.mem_of_getElem? (i := 10) rfl))) (by decide) (backOf (W := 0) (rm2 l Z a0 hw [] s_Move_TO_DOCUMENT s_Move_CONVERSE_FIRST_CHILD s_Move_CONVERSE_NEXT_SIBLING s_Move_TO_DOCUMENT h0 n0 Z0 P10 P14 P18) hZ (hw _ (List.mem_of_getElem? (i := 12) rfl)) (hw _ (List.mem_of_getElem? (i := 6) rfl)) (by decide) (by decide)) q151a q151c (g := (mkF m 84 #[.val (.int p1), .val (.int (5 : Int32)), .val (.ref s_Move_FROM_DOCUMENT), .val (.int (frm2 s_Move_FROM_DOCUMENT s_Move_CONVERSE_FIRST_CHILD s_Move_CONVERSE_NEXT_SIBLING s_Move_TO_DOCUMENT)), .val .null, .val (.int (0 : Int32)), .unset] [(.ref s_Move_TO_DOCUMENT)])) rfl (by rw [hml]; rfl) (Steps.refl _) (argsL := []) (rest := []) (lenOf pd_4 rfl) rfl (by show 2 * 0 + _ ≤ _; exact Nat.le_of_eq rfl) (hb hby at_84) (fun _ _ => ⟨rfl, e150, (by decide : 0 + 0 ≤ _), (by decide : 0 + 0 ≤ _)⟩)
    dsimp only [Pt.U, Pt.locs, Pt.cells, Pt.slots] at X151 l151 y151 z151 st151 hQ151
    subst l151 y151 z151
    obtain ⟨rfl, Nq151, e151⟩ := hQ151
    have N151 := Fr.app N150 Nq151
    refine own_go (A := _) (B := T151.setTop (mkF m 87 #[.val (.int p1), .val (.int (5 : Int32)), .val (.ref s_Move_FROM_DOCUMENT), .val (.int (frm2 s_Move_FROM_DOCUMENT s_Move_CONVERSE_FIRST_CHILD s_Move_CONVERSE_NEXT_SIBLING s_Move_TO_DOCUMENT)), .val .null, .val (.int (0 : Int32)), .unset] [(.int (frm2 s_Move_TO_DOCUMENT s_Move_CONVERSE_FIRST_CHILD s_Move_CONVERSE_NEXT_SIBLING s_Move_TO_DOCUMENT))])) (fun t k => st151.trans k) ?_
    refine own_go (A := T151.setTop (mkF m 87 #[.val (.int p1), .val (.int (5 : Int32)), .val (.ref s_Move_FROM_DOCUMENT), .val (.int (frm2 s_Move_FROM_DOCUMENT s_Move_CONVERSE_FIRST_CHILD s_Move_CONVERSE_NEXT_SIBLING s_Move_TO_DOCUMENT)), .val .null, .val (.int (0 : Int32)), .unset] [(.int (frm2 s_Move_TO_DOCUMENT s_Move_CONVERSE_FIRST_CHILD s_Move_CONVERSE_NEXT_SIBLING s_Move_TO_DOCUMENT))])) (B := T151.setTop (mkF m 92 #[.val (.int p1), .val (.int (5 : Int32)), .val (.ref s_Move_FROM_DOCUMENT), .val (.int (frm2 s_Move_FROM_DOCUMENT s_Move_CONVERSE_FIRST_CHILD s_Move_CONVERSE_NEXT_SIBLING s_Move_TO_DOCUMENT)), .val .null, .val (.int (0 : Int32)), .val (.int (frm2 s_Move_TO_DOCUMENT s_Move_CONVERSE_FIRST_CHILD s_Move_CONVERSE_NEXT_SIBLING s_Move_TO_DOCUMENT))] [(.int (0 : Int32)), (.int (frm2 s_Move_FROM_DOCUMENT s_Move_CONVERSE_FIRST_CHILD s_Move_CONVERSE_NEXT_SIBLING s_Move_TO_DOCUMENT))])) (fun t k => ?_) ?_
    · show Steps p.tables e below (T151.setTop (mkF m 87 #[.val (.int p1), .val (.int (5 : Int32)), .val (.ref s_Move_FROM_DOCUMENT), .val (.int (frm2 s_Move_FROM_DOCUMENT s_Move_CONVERSE_FIRST_CHILD s_Move_CONVERSE_NEXT_SIBLING s_Move_TO_DOCUMENT)), .val .null, .val (.int (0 : Int32)), .unset] [(.int (frm2 s_Move_TO_DOCUMENT s_Move_CONVERSE_FIRST_CHILD s_Move_CONVERSE_NEXT_SIBLING s_Move_TO_DOCUMENT))])) _
      refine XS.istore X151.here hx rfl (hb hby at_87) rfl (l' := #[.val (.int p1), .val (.int (5 : Int32)), .val (.ref s_Move_FROM_DOCUMENT), .val (.int (frm2 s_Move_FROM_DOCUMENT s_Move_CONVERSE_FIRST_CHILD s_Move_CONVERSE_NEXT_SIBLING s_Move_TO_DOCUMENT)), .val .null, .val (.int (0 : Int32)), .val (.int (frm2 s_Move_TO_DOCUMENT s_Move_CONVERSE_FIRST_CHILD s_Move_CONVERSE_NEXT_SIBLING s_Move_TO_DOCUMENT))]) rfl ?_
      show Steps p.tables e below (T151.setTop (mkF m 89 #[.val (.int p1), .val (.int (5 : Int32)), .val (.ref s_Move_FROM_DOCUMENT), .val (.int (frm2 s_Move_FROM_DOCUMENT s_Move_CONVERSE_FIRST_CHILD s_Move_CONVERSE_NEXT_SIBLING s_Move_TO_DOCUMENT)), .val .null, .val (.int (0 : Int32)), .val (.int (frm2 s_Move_TO_DOCUMENT s_Move_CONVERSE_FIRST_CHILD s_Move_CONVERSE_NEXT_SIBLING s_Move_TO_DOCUMENT))] [])) _
      refine XS.iloadN X151.here hx rfl (hb hby at_89) rfl ?_
      show Steps p.tables e below (T151.setTop (mkF m 90 #[.val (.int p1), .val (.int (5 : Int32)), .val (.ref s_Move_FROM_DOCUMENT), .val (.int (frm2 s_Move_FROM_DOCUMENT s_Move_CONVERSE_FIRST_CHILD s_Move_CONVERSE_NEXT_SIBLING s_Move_TO_DOCUMENT)), .val .null, .val (.int (0 : Int32)), .val (.int (frm2 s_Move_TO_DOCUMENT s_Move_CONVERSE_FIRST_CHILD s_Move_CONVERSE_NEXT_SIBLING s_Move_TO_DOCUMENT))] [(.int (frm2 s_Move_FROM_DOCUMENT s_Move_CONVERSE_FIRST_CHILD s_Move_CONVERSE_NEXT_SIBLING s_Move_TO_DOCUMENT))])) _
      refine XS.iload X151.here hx rfl (hb hby at_90) rfl ?_
      exact k
    have hc92_152 : ((frm2 s_Move_FROM_DOCUMENT s_Move_CONVERSE_FIRST_CHILD s_Move_CONVERSE_NEXT_SIBLING s_Move_TO_DOCUMENT) = (0 : Int32)) := by simp [frm2, ne_s_Move_TO_DOCUMENT_s_Move_CONVERSE_FIRST_CHILD, ne_s_Move_TO_DOCUMENT_s_Move_CONVERSE_NEXT_SIBLING, ne_s_Move_FROM_DOCUMENT_s_Move_CONVERSE_FIRST_CHILD, ne_s_Move_FROM_DOCUMENT_s_Move_CONVERSE_NEXT_SIBLING, ne_s_Move_FROM_DOCUMENT_s_Move_TO_DOCUMENT]
    refine own_go (A := T151.setTop (mkF m 92 #[.val (.int p1), .val (.int (5 : Int32)), .val (.ref s_Move_FROM_DOCUMENT), .val (.int (frm2 s_Move_FROM_DOCUMENT s_Move_CONVERSE_FIRST_CHILD s_Move_CONVERSE_NEXT_SIBLING s_Move_TO_DOCUMENT)), .val .null, .val (.int (0 : Int32)), .val (.int (frm2 s_Move_TO_DOCUMENT s_Move_CONVERSE_FIRST_CHILD s_Move_CONVERSE_NEXT_SIBLING s_Move_TO_DOCUMENT))] [(.int (0 : Int32)), (.int (frm2 s_Move_FROM_DOCUMENT s_Move_CONVERSE_FIRST_CHILD s_Move_CONVERSE_NEXT_SIBLING s_Move_TO_DOCUMENT))])) (B := T151.setTop (mkF m 98 #[.val (.int p1), .val (.int (5 : Int32)), .val (.ref s_Move_FROM_DOCUMENT), .val (.int (frm2 s_Move_FROM_DOCUMENT s_Move_CONVERSE_FIRST_CHILD s_Move_CONVERSE_NEXT_SIBLING s_Move_TO_DOCUMENT)), .val .null, .val (.int (0 : Int32)), .val (.int (frm2 s_Move_TO_DOCUMENT s_Move_CONVERSE_FIRST_CHILD s_Move_CONVERSE_NEXT_SIBLING s_Move_TO_DOCUMENT))] [(.int (frm2 s_Move_TO_DOCUMENT s_Move_CONVERSE_FIRST_CHILD s_Move_CONVERSE_NEXT_SIBLING s_Move_TO_DOCUMENT)), (.int (frm2 s_Move_FROM_DOCUMENT s_Move_CONVERSE_FIRST_CHILD s_Move_CONVERSE_NEXT_SIBLING s_Move_TO_DOCUMENT))])) (fun t k => ?_) ?_
    · show Steps p.tables e below (T151.setTop (mkF m 92 #[.val (.int p1), .val (.int (5 : Int32)), .val (.ref s_Move_FROM_DOCUMENT), .val (.int (frm2 s_Move_FROM_DOCUMENT s_Move_CONVERSE_FIRST_CHILD s_Move_CONVERSE_NEXT_SIBLING s_Move_TO_DOCUMENT)), .val .null, .val (.int (0 : Int32)), .val (.int (frm2 s_Move_TO_DOCUMENT s_Move_CONVERSE_FIRST_CHILD s_Move_CONVERSE_NEXT_SIBLING s_Move_TO_DOCUMENT))] [(.int (0 : Int32)), (.int (frm2 s_Move_FROM_DOCUMENT s_Move_CONVERSE_FIRST_CHILD s_Move_CONVERSE_NEXT_SIBLING s_Move_TO_DOCUMENT))])) _
      refine XS.icmpNo X151.here hx rfl (hb hby at_92) rfl (teq hc92_152).2 ?_
      show Steps p.tables e below (T151.setTop (mkF m 95 #[.val (.int p1), .val (.int (5 : Int32)), .val (.ref s_Move_FROM_DOCUMENT), .val (.int (frm2 s_Move_FROM_DOCUMENT s_Move_CONVERSE_FIRST_CHILD s_Move_CONVERSE_NEXT_SIBLING s_Move_TO_DOCUMENT)), .val .null, .val (.int (0 : Int32)), .val (.int (frm2 s_Move_TO_DOCUMENT s_Move_CONVERSE_FIRST_CHILD s_Move_CONVERSE_NEXT_SIBLING s_Move_TO_DOCUMENT))] [])) _
      refine XS.iloadN X151.here hx rfl (hb hby at_95) rfl ?_
      show Steps p.tables e below (T151.setTop (mkF m 96 #[.val (.int p1), .val (.int (5 : Int32)), .val (.ref s_Move_FROM_DOCUMENT), .val (.int (frm2 s_Move_FROM_DOCUMENT s_Move_CONVERSE_FIRST_CHILD s_Move_CONVERSE_NEXT_SIBLING s_Move_TO_DOCUMENT)), .val .null, .val (.int (0 : Int32)), .val (.int (frm2 s_Move_TO_DOCUMENT s_Move_CONVERSE_FIRST_CHILD s_Move_CONVERSE_NEXT_SIBLING s_Move_TO_DOCUMENT))] [(.int (frm2 s_Move_FROM_DOCUMENT s_Move_CONVERSE_FIRST_CHILD s_Move_CONVERSE_NEXT_SIBLING s_Move_TO_DOCUMENT))])) _
      refine XS.iload X151.here hx rfl (hb hby at_96) rfl ?_
      exact k
    have hc98_153 : ¬ ((frm2 s_Move_FROM_DOCUMENT s_Move_CONVERSE_FIRST_CHILD s_Move_CONVERSE_NEXT_SIBLING s_Move_TO_DOCUMENT) = (frm2 s_Move_TO_DOCUMENT s_Move_CONVERSE_FIRST_CHILD s_Move_CONVERSE_NEXT_SIBLING s_Move_TO_DOCUMENT)) := by simp [frm2, ne_s_Move_TO_DOCUMENT_s_Move_CONVERSE_FIRST_CHILD, ne_s_Move_TO_DOCUMENT_s_Move_CONVERSE_NEXT_SIBLING, ne_s_Move_FROM_DOCUMENT_s_Move_CONVERSE_FIRST_CHILD, ne_s_Move_FROM_DOCUMENT_s_Move_CONVERSE_NEXT_SIBLING, ne_s_Move_FROM_DOCUMENT_s_Move_TO_DOCUMENT]
    refine own_go (A := T151.setTop (mkF m 98 #[.val (.int p1), .val (.int (5 : Int32)), .val (.ref s_Move_FROM_DOCUMENT), .val (.int (frm2 s_Move_FROM_DOCUMENT s_Move_CONVERSE_FIRST_CHILD s_Move_CONVERSE_NEXT_SIBLING s_Move_TO_DOCUMENT)), .val .null, .val (.int (0 : Int32)), .val (.int (frm2 s_Move_TO_DOCUMENT s_Move_CONVERSE_FIRST_CHILD s_Move_CONVERSE_NEXT_SIBLING s_Move_TO_DOCUMENT))] [(.int (frm2 s_Move_TO_DOCUMENT s_Move_CONVERSE_FIRST_CHILD s_Move_CONVERSE_NEXT_SIBLING s_Move_TO_DOCUMENT)), (.int (frm2 s_Move_FROM_DOCUMENT s_Move_CONVERSE_FIRST_CHILD s_Move_CONVERSE_NEXT_SIBLING s_Move_TO_DOCUMENT))])) (B := T151.setTop (mkF m 106 #[.val (.int p1), .val (.int (5 : Int32)), .val (.ref s_Move_FROM_DOCUMENT), .val (.int (frm2 s_Move_FROM_DOCUMENT s_Move_CONVERSE_FIRST_CHILD s_Move_CONVERSE_NEXT_SIBLING s_Move_TO_DOCUMENT)), .val .null, .val (.int (0 : Int32)), .val (.int (frm2 s_Move_TO_DOCUMENT s_Move_CONVERSE_FIRST_CHILD s_Move_CONVERSE_NEXT_SIBLING s_Move_TO_DOCUMENT))] [(.int (1 : Int32))])) (fun t k => ?_) ?_
    · show Steps p.tables e below (T151.setTop (mkF m 98 #[.val (.int p1), .val (.int (5 : Int32)), .val (.ref s_Move_FROM_DOCUMENT), .val (.int (frm2 s_Move_FROM_DOCUMENT s_Move_CONVERSE_FIRST_CHILD s_Move_CONVERSE_NEXT_SIBLING s_Move_TO_DOCUMENT)), .val .null, .val (.int (0 : Int32)), .val (.int (frm2 s_Move_TO_DOCUMENT s_Move_CONVERSE_FIRST_CHILD s_Move_CONVERSE_NEXT_SIBLING s_Move_TO_DOCUMENT))] [(.int (frm2 s_Move_TO_DOCUMENT s_Move_CONVERSE_FIRST_CHILD s_Move_CONVERSE_NEXT_SIBLING s_Move_TO_DOCUMENT)), (.int (frm2 s_Move_FROM_DOCUMENT s_Move_CONVERSE_FIRST_CHILD s_Move_CONVERSE_NEXT_SIBLING s_Move_TO_DOCUMENT))])) _
      refine XS.icmpNo X151.here hx rfl (hb hby at_98) rfl (feq hc98_153).1 ?_
      show Steps p.tables e below (T151.setTop (mkF m 101 #[.val (.int p1), .val (.int (5 : Int32)), .val (.ref s_Move_FROM_DOCUMENT), .val (.int (frm2 s_Move_FROM_DOCUMENT s_Move_CONVERSE_FIRST_CHILD s_Move_CONVERSE_NEXT_SIBLING s_Move_TO_DOCUMENT)), .val .null, .val (.int (0 : Int32)), .val (.int (frm2 s_Move_TO_DOCUMENT s_Move_CONVERSE_FIRST_CHILD s_Move_CONVERSE_NEXT_SIBLING s_Move_TO_DOCUMENT))] [])) _
      refine XS.iconst X151.here hx rfl (hb hby at_101) ?_
      show Steps p.tables e below (T151.setTop (mkF m 102 #[.val (.int p1), .val (.int (5 : Int32)), .val (.ref s_Move_FROM_DOCUMENT), .val (.int (frm2 s_Move_FROM_DOCUMENT s_Move_CONVERSE_FIRST_CHILD s_Move_CONVERSE_NEXT_SIBLING s_Move_TO_DOCUMENT)), .val .null, .val (.int (0 : Int32)), .val (.int (frm2 s_Move_TO_DOCUMENT s_Move_CONVERSE_FIRST_CHILD s_Move_CONVERSE_NEXT_SIBLING s_Move_TO_DOCUMENT))] [(.int (1 : Int32))])) _
      refine XS.goto X151.here hx rfl (pc0 := 102) (pc' := 106) rfl (hb hby at_102) (by decide) (by decide) ?_
      exact k
    obtain ⟨fs, hr, hrun, hended, hW, hsame⟩ := X151.leave (v := some (.int (1 : Int32))) (fun h => by rw [Bd.returns] at h; cases h)
    refine ⟨_, _, ?_, hrun, hended, _, _, rfl, ?_, ⟨_, rfl⟩, hW, hsame.mono (by decide) (by decide)⟩
    · show Steps p.tables e below (T151.setTop (mkF m 106 #[.val (.int p1), .val (.int (5 : Int32)), .val (.ref s_Move_FROM_DOCUMENT), .val (.int (frm2 s_Move_FROM_DOCUMENT s_Move_CONVERSE_FIRST_CHILD s_Move_CONVERSE_NEXT_SIBLING s_Move_TO_DOCUMENT)), .val .null, .val (.int (0 : Int32)), .val (.int (frm2 s_Move_TO_DOCUMENT s_Move_CONVERSE_FIRST_CHILD s_Move_CONVERSE_NEXT_SIBLING s_Move_TO_DOCUMENT))] [(.int (1 : Int32))])) _
      exact retN X151 hx (t := .boolean) Bd.returns (by simp) (hb hby at_106) hr
    · show Qrm0 Z p1 cs fmt s_Move_FIRST_CHILD s_Move_NEXT_SIBLING s_Move_CONVERSE_FIRST_CHILD s_Move_CONVERSE_NEXT_SIBLING s_Move_TO_DOCUMENT s_Move_FROM_DOCUMENT s_Modality_FIRST_CHILD t0 v0 kk0 s_Modality_NEXT_SIBLING t1 v1 kk1 s_Modality_CONVERSE_FIRST_CHILD t2 v2 kk2 s_Modality_CONVERSE_NEXT_SIBLING t3 v3 kk3 h0 n0 _ T151.heap _
      rw [e151]
      exact ⟨rfl, N151⟩
def Qrm11_3N (Z : State)  (h0 : Heap) (n0 : Nat) (v : Option Value) (h : Heap) (L : List Loc) : Prop := v = some (.int (1 : Int32)) ∧ Fr n0 L ∧ h = h0
theorem efrm11_3N (m : MethodId)  : entryFrame m #[(.int (1 : Int32)), (.int (3 : Int32)), .null] 3 = mkF m 0 #[.val (.int (1 : Int32)), .val (.int (3 : Int32)), .val .null] [] := by first | (simp [entryFrame, mkF, argsToLocals, Value.category]; done) | rfl
set_option maxRecDepth 65536 in
set_option maxHeartbeats 40000000 in
theorem rm11_3N (l : Launch) (Z : State) (a0 : Array Value) (hw : ∀ d ∈ tables_1, d.before a0 Z = true) (ws : List Jvm.Cond)  (h0 : Heap) (n0 : Nat) (Z0 : n0 ≤ h0.size)  :
    MetFree l (⟨"jdk/internal/util/Preconditions", "checkIndex", "(IILjava/util/function/BiFunction;)I"⟩ : MethodName) (head1 (Jvm.Cond.code (⟨"jdk/internal/util/Preconditions", "checkIndex", "(IILjava/util/function/BiFunction;)I"⟩ : MethodName) jdk_41_method_11_code 3 (some .int) :: ws) ({ frames := 0, cells := 0, slots := 0, locals := 0 } : Room)) (fun a U => a = #[(.int (1 : Int32)), (.int (3 : Int32)), .null] ∧ Z.Warmed39 U.vm ∧ U.heap = h0) (fun _ _ _ _ _ => True) (fun _ U o U' => ∃ v L, o = .returned v ∧ Qrm11_3N Z  h0 n0 v U'.heap L ∧ FrameEnd U o U' L ({ frames := 0, cells := 0, slots := 0, locals := 0 } : Room).cells ({ frames := 0, cells := 0, slots := 0, locals := 0 } : Room).slots) := by
  refine MetFree.of_bodySF (plainFor_of_name pn_5) hisR ?_
  intro p e s m args below meth c s₁ Bd hml0 hP hK
  obtain ⟨rfl, hZ, hh⟩ := hP
  have hx := Bd.exec
  have hby := Bd.bytes
  have hml : c.maxLocals = 3 := hml0
  have hown : s.vm.findClass "jdk/internal/util/Preconditions" = some m.cls := findClass_of_methodNamed Bd.named
  have hnm := (name_of_methodNamed Bd.named Bd.method).1
  have X0 : Stand p l e ({ frames := 0, cells := 0, slots := 0, locals := 0 } : Room) s m #[(.int (1 : Int32)), (.int (3 : Int32)), .null] below meth c s₁ [] 0 0 := Stand.of_body Bd
  have e0 : s₁.heap = h0 := by rw [← hh, Bd.state]; rfl
  have N0 := Fr.nil n0
  have K0 : Keep h0 h0 [] := Keep.refl h0 _
  refine own_go (B := s₁.setTop (mkF m 0 #[.val (.int (1 : Int32)), .val (.int (3 : Int32)), .val .null] [])) (fun t k => castTop (efrm11_3N m ) k) ?_
  refine own_go (A := s₁.setTop (mkF m 0 #[.val (.int (1 : Int32)), .val (.int (3 : Int32)), .val .null] [])) (B := s₁.setTop (mkF m 17 #[.val (.int (1 : Int32)), .val (.int (3 : Int32)), .val .null] [(.int (1 : Int32))])) (fun t k => ?_) ?_
  · show Steps p.tables e below (s₁.setTop (mkF m 0 #[.val (.int (1 : Int32)), .val (.int (3 : Int32)), .val .null] [])) _
    refine XS.iloadN X0.here hx rfl (hb hby d11_0) rfl ?_
    show Steps p.tables e below (s₁.setTop (mkF m 1 #[.val (.int (1 : Int32)), .val (.int (3 : Int32)), .val .null] [(.int (1 : Int32))])) _
    refine XS.ifNo X0.here hx rfl (hb hby d11_1) rfl ((if0 _ _).trans (flt (by decide : ¬ ((1 : Int32) < (0 : Int32)))).1) ?_
    show Steps p.tables e below (s₁.setTop (mkF m 4 #[.val (.int (1 : Int32)), .val (.int (3 : Int32)), .val .null] [])) _
    refine XS.iloadN X0.here hx rfl (hb hby d11_4) rfl ?_
    show Steps p.tables e below (s₁.setTop (mkF m 5 #[.val (.int (1 : Int32)), .val (.int (3 : Int32)), .val .null] [(.int (1 : Int32))])) _
    refine XS.iloadN X0.here hx rfl (hb hby d11_5) rfl ?_
    show Steps p.tables e below (s₁.setTop (mkF m 6 #[.val (.int (1 : Int32)), .val (.int (3 : Int32)), .val .null] [(.int (3 : Int32)), (.int (1 : Int32))])) _
    refine XS.icmpYes X0.here hx rfl (pc0 := 6) (pc' := 16) rfl (hb hby d11_6) rfl (tlt (by decide : ((1 : Int32) < (3 : Int32)))).1 (by decide) (by decide) ?_
    show Steps p.tables e below (s₁.setTop (mkF m 16 #[.val (.int (1 : Int32)), .val (.int (3 : Int32)), .val .null] [])) _
    refine XS.iloadN X0.here hx rfl (hb hby d11_16) rfl ?_
    exact k
  obtain ⟨fs, hr, hrun, hended, hW, hsame⟩ := X0.leave (v := some (.int (1 : Int32))) (fun h => by rw [Bd.returns] at h; cases h)
  refine ⟨_, _, ?_, hrun, hended, _, _, rfl, ?_, ⟨_, rfl⟩, hW, hsame.mono (by decide) (by decide)⟩
  · show Steps p.tables e below (s₁.setTop (mkF m 17 #[.val (.int (1 : Int32)), .val (.int (3 : Int32)), .val .null] [(.int (1 : Int32))])) _
    exact retOut X0 hx Bd.returns rfl (Or.inl ⟨rfl, Or.inl rfl, _, rfl⟩) (hb hby d11_17) hr
  · show Qrm11_3N Z  h0 n0 _ s₁.heap _
    rw [e0]
    exact ⟨rfl, N0, rfl⟩
def Qrm10_3N (Z : State)  (h0 : Heap) (n0 : Nat) (v : Option Value) (h : Heap) (L : List Loc) : Prop := v = none ∧ Fr n0 L ∧ h = h0
theorem efrm10_3N (m : MethodId)  : entryFrame m #[(.int (1 : Int32)), (.int (3 : Int32))] 2 = mkF m 0 #[.val (.int (1 : Int32)), .val (.int (3 : Int32))] [] := by first | (simp [entryFrame, mkF, argsToLocals, Value.category]; done) | rfl
set_option maxRecDepth 65536 in
set_option maxHeartbeats 40000000 in
theorem rm10_3N (l : Launch) (Z : State) (a0 : Array Value) (hw : ∀ d ∈ tables_1, d.before a0 Z = true) (ws : List Jvm.Cond)  (h0 : Heap) (n0 : Nat) (Z0 : n0 ≤ h0.size) (P0 : Sta Z h0 "jdk/internal/util/Preconditions" "SIOOBE_FORMATTER" "Ljava/util/function/BiFunction;" .null) :
    MetFree l (⟨"java/lang/String", "checkIndex", "(II)V"⟩ : MethodName) (head1 (Jvm.Cond.code (⟨"java/lang/String", "checkIndex", "(II)V"⟩ : MethodName) jdk_42_method_155_code 2 none :: ws) ({ frames := 1, cells := 0, slots := 0, locals := 14 } : Room)) (fun a U => a = #[(.int (1 : Int32)), (.int (3 : Int32))] ∧ Z.Warmed39 U.vm ∧ U.heap = h0) (fun _ _ _ _ _ => True) (fun _ U o U' => ∃ v L, o = .returned v ∧ Qrm10_3N Z  h0 n0 v U'.heap L ∧ FrameEnd U o U' L ({ frames := 1, cells := 0, slots := 0, locals := 14 } : Room).cells ({ frames := 1, cells := 0, slots := 0, locals := 14 } : Room).slots) := by
  refine MetFree.of_bodySF (plainFor_of_name pn_3) hisR ?_
  intro p e s m args below meth c s₁ Bd hml0 hP hK
  obtain ⟨rfl, hZ, hh⟩ := hP
  have hx := Bd.exec
  have hby := Bd.bytes
  have hml : c.maxLocals = 2 := hml0
  have hown : s.vm.findClass "java/lang/String" = some m.cls := findClass_of_methodNamed Bd.named
  have hnm := (name_of_methodNamed Bd.named Bd.method).1
  have X0 : Stand p l e ({ frames := 1, cells := 0, slots := 0, locals := 14 } : Room) s m #[(.int (1 : Int32)), (.int (3 : Int32))] below meth c s₁ [] 0 0 := Stand.of_body Bd
  have e0 : s₁.heap = h0 := by rw [← hh, Bd.state]; rfl
  have N0 := Fr.nil n0
  have K0 : Keep h0 h0 [] := Keep.refl h0 _
  refine own_go (B := s₁.setTop (mkF m 0 #[.val (.int (1 : Int32)), .val (.int (3 : Int32))] [])) (fun t k => castTop (efrm10_3N m ) k) ?_
  refine own_go (A := s₁.setTop (mkF m 0 #[.val (.int (1 : Int32)), .val (.int (3 : Int32))] [])) (B := s₁.setTop (mkF m 2 #[.val (.int (1 : Int32)), .val (.int (3 : Int32))] [(.int (3 : Int32)), (.int (1 : Int32))])) (fun t k => ?_) ?_
  · show Steps p.tables e below (s₁.setTop (mkF m 0 #[.val (.int (1 : Int32)), .val (.int (3 : Int32))] [])) _
    refine XS.iloadN X0.here hx rfl (hb hby d10_0) rfl ?_
    show Steps p.tables e below (s₁.setTop (mkF m 1 #[.val (.int (1 : Int32)), .val (.int (3 : Int32))] [(.int (1 : Int32))])) _
    refine XS.iloadN X0.here hx rfl (hb hby d10_1) rfl ?_
    exact k
  obtain ⟨T156, X156, e156, st156⟩ := getS2 X0 hx hZ hown (host := "") (Or.inl (hw _ (List.mem_of_getElem? (i := 68) rfl))) Via.refl e0 P0 (g := (mkF m 2 #[.val (.int (1 : Int32)), .val (.int (3 : Int32))] [(.int (3 : Int32)), (.int (1 : Int32))])) rfl (hb hby d10_2)
  refine own_go st156 ?_
  obtain ⟨_, _, ⟨T157, L157, k157, n157⟩, -, X157, ⟨Lc157, hQ157, l157, y157, z157⟩, st157⟩ := Jvm.LawKit.callS X156 hx (y := (⟨"jdk/internal/util/Preconditions", "checkIndex", "(IILjava/util/function/BiFunction;)I"⟩ : MethodName)) hown (mvT hZ (hw _ (List.mem_of_getElem? (i := 70) rfl))) (mvT hZ (hw _ (List.mem_of_getElem? (i := 71) rfl))) (mvT hZ (hw _ (List.mem_of_getElem? (i := 69) rfl))) (mvT hZ (hw _ (List.mem_of_getElem? (i := 72) rfl))) (by decide) (backOf (W := 0) (rm11_3N l Z a0 hw []  h0 n0 Z0 ) hZ (hw _ (List.mem_of_getElem? (i := 72) rfl)) (hw _ (List.mem_of_getElem? (i := 69) rfl)) (by decide) (by decide)) (g := (mkF m 5 #[.val (.int (1 : Int32)), .val (.int (3 : Int32))] [.null, (.int (3 : Int32)), (.int (1 : Int32))])) rfl (by rw [hml]; rfl) (argsL := [(.int (1 : Int32)), (.int (3 : Int32)), .null]) (rest := []) (lenOf pd_2 rfl) rfl (by show 2 * 0 + _ ≤ _; exact Nat.le_of_eq rfl) (hb hby d10_5) (fun _ _ => ⟨rfl, e156, (by decide : 0 + 0 ≤ _), (by decide : 0 + 0 ≤ _)⟩)
  dsimp only [Pt.U, Pt.locs, Pt.cells, Pt.slots] at X157 l157 y157 z157 st157 hQ157
  subst l157 y157 z157
  obtain ⟨rfl, Nq157, e157⟩ := hQ157
  have N157 := Fr.app N0 Nq157
  refine own_go (A := _) (B := T157.setTop (mkF m 8 #[.val (.int (1 : Int32)), .val (.int (3 : Int32))] [(.int (1 : Int32))])) st157 ?_
  refine own_go (A := T157.setTop (mkF m 8 #[.val (.int (1 : Int32)), .val (.int (3 : Int32))] [(.int (1 : Int32))])) (B := T157.setTop (mkF m 9 #[.val (.int (1 : Int32)), .val (.int (3 : Int32))] [])) (fun t k => ?_) ?_
  · show Steps p.tables e below (T157.setTop (mkF m 8 #[.val (.int (1 : Int32)), .val (.int (3 : Int32))] [(.int (1 : Int32))])) _
    refine XS.pop X157.here hx rfl (hb hby d10_8) rfl rfl ?_
    exact k
  obtain ⟨fs, hr, hrun, hended, hW, hsame⟩ := X157.leave (v := none) (fun _ => rfl)
  refine ⟨_, _, ?_, hrun, hended, _, _, rfl, ?_, ⟨_, rfl⟩, hW, hsame.mono (by decide) (by decide)⟩
  · show Steps p.tables e below (T157.setTop (mkF m 9 #[.val (.int (1 : Int32)), .val (.int (3 : Int32))] [])) _
    exact X157.returnOut hx Bd.returns (hb hby d10_9) hr
  · show Qrm10_3N Z  h0 n0 _ T157.heap _
    rw [e157]
    exact ⟨rfl, N157, rfl⟩
def Qrm9_3N (Z : State) (b1 : Addr) (x0 : Int32) (x1 : Int32) (x2 : Int32) (k1 : ClassId) (h0 : Heap) (n0 : Nat) (v : Option Value) (h : Heap) (L : List Loc) : Prop := v = some (.int (nar .char ((x1 &&& (255 : Int32)).toUInt32.toUInt16.toUInt32.toInt32))) ∧ Fr n0 L ∧ h = h0
theorem efrm9_3N (m : MethodId) (x0 : Addr) : entryFrame m #[(.ref x0), (.int (1 : Int32))] 2 = mkF m 0 #[.val (.ref x0), .val (.int (1 : Int32))] [] := by first | (simp [entryFrame, mkF, argsToLocals, Value.category]; done) | rfl
set_option maxRecDepth 65536 in
set_option maxHeartbeats 40000000 in
theorem rm9_3N (l : Launch) (Z : State) (a0 : Array Value) (hw : ∀ d ∈ tables_1, d.before a0 Z = true) (ws : List Jvm.Cond) (b1 : Addr) (x0 : Int32) (x1 : Int32) (x2 : Int32) (k1 : ClassId) (h0 : Heap) (n0 : Nat) (Z0 : n0 ≤ h0.size) (P0 : Sta Z h0 "jdk/internal/util/Preconditions" "SIOOBE_FORMATTER" "Ljava/util/function/BiFunction;" .null) (P1 : Arv Z h0 b1 k1 .byte (3 : Int32) [(.int x0), (.int x1), (.int x2)] (.int (0 : Int32))) :
    MetFree l (⟨"java/lang/StringLatin1", "charAt", "([BI)C"⟩ : MethodName) (head1 (Jvm.Cond.code (⟨"java/lang/StringLatin1", "charAt", "([BI)C"⟩ : MethodName) jdk_43_method_2_code 2 (some .char) :: ws) ({ frames := 2, cells := 0, slots := 0, locals := 27 } : Room)) (fun a U => a = #[(.ref b1), (.int (1 : Int32))] ∧ Z.Warmed39 U.vm ∧ U.heap = h0) (fun _ _ _ _ _ => True) (fun _ U o U' => ∃ v L, o = .returned v ∧ Qrm9_3N Z b1 x0 x1 x2 k1 h0 n0 v U'.heap L ∧ FrameEnd U o U' L ({ frames := 2, cells := 0, slots := 0, locals := 27 } : Room).cells ({ frames := 2, cells := 0, slots := 0, locals := 27 } : Room).slots) := by
  refine MetFree.of_bodySF (plainFor_of_name pn_6) hisR ?_
  intro p e s m args below meth c s₁ Bd hml0 hP hK
  obtain ⟨rfl, hZ, hh⟩ := hP
  have hx := Bd.exec
  have hby := Bd.bytes
  have hml : c.maxLocals = 2 := hml0
  have hown : s.vm.findClass "java/lang/StringLatin1" = some m.cls := findClass_of_methodNamed Bd.named
  have hnm := (name_of_methodNamed Bd.named Bd.method).1
  have X0 : Stand p l e ({ frames := 2, cells := 0, slots := 0, locals := 27 } : Room) s m #[(.ref b1), (.int (1 : Int32))] below meth c s₁ [] 0 0 := Stand.of_body Bd
  have e0 : s₁.heap = h0 := by rw [← hh, Bd.state]; rfl
  have N0 := Fr.nil n0
  have K0 : Keep h0 h0 [] := Keep.refl h0 _
  refine own_go (B := s₁.setTop (mkF m 0 #[.val (.ref b1), .val (.int (1 : Int32))] [])) (fun t k => castTop (efrm9_3N m b1) k) ?_
  refine own_go (A := s₁.setTop (mkF m 0 #[.val (.ref b1), .val (.int (1 : Int32))] [])) (B := s₁.setTop (mkF m 2 #[.val (.ref b1), .val (.int (1 : Int32))] [(.ref b1), (.int (1 : Int32))])) (fun t k => ?_) ?_
  · show Steps p.tables e below (s₁.setTop (mkF m 0 #[.val (.ref b1), .val (.int (1 : Int32))] [])) _
    refine XS.iloadN X0.here hx rfl (hb hby d9_0) rfl ?_
    show Steps p.tables e below (s₁.setTop (mkF m 1 #[.val (.ref b1), .val (.int (1 : Int32))] [(.int (1 : Int32))])) _
    refine XS.aloadN X0.here hx rfl (hb hby d9_1) rfl rfl ?_
    exact k
  obtain ⟨cl158, Ar158, q158, S158, M158, Ha158, G158⟩ := id P1
  refine own_go (A := s₁.setTop (mkF m 2 #[.val (.ref b1), .val (.int (1 : Int32))] [(.ref b1), (.int (1 : Int32))])) (B := s₁.setTop (mkF m 3 #[.val (.ref b1), .val (.int (1 : Int32))] [(.int (3 : Int32)), (.int (1 : Int32))])) (fun t k => ?_) ?_
  · refine X0.arraylength hx (by rw [e0]; exact Ar158.1) (State.isArrayOf_alike hZ.alike Ar158.2.1) (g := (mkF m 2 #[.val (.ref b1), .val (.int (1 : Int32))] [(.ref b1), (.int (1 : Int32))])) rfl rfl (hb hby d9_2) _ ?_
    rw [len_of S158 M158]
    exact k
  obtain ⟨_, _, ⟨T159, L159, k159, n159⟩, -, X159, ⟨Lc159, hQ159, l159, y159, z159⟩, st159⟩ := Jvm.LawKit.callS X0 hx (y := (⟨"java/lang/String", "checkIndex", "(II)V"⟩ : MethodName)) hown (mvT hZ (hw _ (List.mem_of_getElem? (i := 65) rfl))) (mvT hZ (hw _ (List.mem_of_getElem? (i := 66) rfl))) (mvT hZ (hw _ (List.mem_of_getElem? (i := 39) rfl))) (mvT hZ (hw _ (List.mem_of_getElem? (i := 67) rfl))) (by decide) (backOf (W := 0) (rm10_3N l Z a0 hw []  h0 n0 Z0 P0) hZ (hw _ (List.mem_of_getElem? (i := 67) rfl)) (hw _ (List.mem_of_getElem? (i := 39) rfl)) (by decide) (by decide)) (g := (mkF m 3 #[.val (.ref b1), .val (.int (1 : Int32))] [(.int (3 : Int32)), (.int (1 : Int32))])) rfl (by rw [hml]; rfl) (argsL := [(.int (1 : Int32)), (.int (3 : Int32))]) (rest := []) (lenOf pd_3 rfl) rfl (by show 2 * 0 + _ ≤ _; exact Nat.le_of_eq rfl) (hb hby d9_3) (fun _ _ => ⟨rfl, e0, (by decide : 0 + 0 ≤ _), (by decide : 0 + 0 ≤ _)⟩)
  dsimp only [Pt.U, Pt.locs, Pt.cells, Pt.slots] at X159 l159 y159 z159 st159 hQ159
  subst l159 y159 z159
  obtain ⟨rfl, Nq159, e159⟩ := hQ159
  have N159 := Fr.app N0 Nq159
  refine own_go (A := _) (B := T159.setTop (mkF m 6 #[.val (.ref b1), .val (.int (1 : Int32))] [])) st159 ?_
  refine own_go (A := T159.setTop (mkF m 6 #[.val (.ref b1), .val (.int (1 : Int32))] [])) (B := T159.setTop (mkF m 8 #[.val (.ref b1), .val (.int (1 : Int32))] [(.int (1 : Int32)), (.ref b1)])) (fun t k => ?_) ?_
  · show Steps p.tables e below (T159.setTop (mkF m 6 #[.val (.ref b1), .val (.int (1 : Int32))] [])) _
    refine XS.aloadN X159.here hx rfl (hb hby d9_6) rfl rfl ?_
    show Steps p.tables e below (T159.setTop (mkF m 7 #[.val (.ref b1), .val (.int (1 : Int32))] [(.ref b1)])) _
    refine XS.iloadN X159.here hx rfl (hb hby d9_7) rfl ?_
    exact k
  obtain ⟨cl160, Ar160, q160, S160, M160, Ha160, G160⟩ := id P1
  have hin160 : ¬ ((1 : Int32) < 0 ∨ cl160.slots.size ≤ ((1 : Int32)).toNatClampNeg) := inb_of S160 ⟨by decide, by decide⟩
  refine own_go (A := T159.setTop (mkF m 8 #[.val (.ref b1), .val (.int (1 : Int32))] [(.int (1 : Int32)), (.ref b1)])) (X159.baloadBytes hx (j := (1 : Int32)) (v := (.int x1)) (by rw [e159]; exact Ar160.1) (State.isArrayOf_alike hZ.alike Ar160.2.1) Ar160.2.2 hin160 (Has.at Ha160 hin160 rfl) (g := (mkF m 8 #[.val (.ref b1), .val (.int (1 : Int32))] [(.int (1 : Int32)), (.ref b1)])) rfl rfl (hb hby d9_8)) ?_
  refine own_go (A := T159.setTop (mkF m 9 #[.val (.ref b1), .val (.int (1 : Int32))] [(.int x1)])) (B := T159.setTop (mkF m 14 #[.val (.ref b1), .val (.int (1 : Int32))] [(.int ((x1 &&& (255 : Int32)).toUInt32.toUInt16.toUInt32.toInt32))])) (fun t k => ?_) ?_
  · show Steps p.tables e below (T159.setTop (mkF m 9 #[.val (.ref b1), .val (.int (1 : Int32))] [(.int x1)])) _
    refine XS.sipush X159.here hx rfl (hb hby d9_9) ?_
    show Steps p.tables e below (T159.setTop (mkF m 12 #[.val (.ref b1), .val (.int (1 : Int32))] [(.int (255 : Int32)), (.int x1)])) _
    refine XS.iand X159.here hx rfl (hb hby d9_12) rfl ?_
    show Steps p.tables e below (T159.setTop (mkF m 13 #[.val (.ref b1), .val (.int (1 : Int32))] [(.int (x1 &&& (255 : Int32)))])) _
    refine XS.i2c X159.here hx rfl (hb hby d9_13) rfl ?_
    exact k
  obtain ⟨fs, hr, hrun, hended, hW, hsame⟩ := X159.leave (v := some (.int (nar .char ((x1 &&& (255 : Int32)).toUInt32.toUInt16.toUInt32.toInt32)))) (fun h => by rw [Bd.returns] at h; cases h)
  refine ⟨_, _, ?_, hrun, hended, _, _, rfl, ?_, ⟨_, rfl⟩, hW, hsame.mono (by decide) (by decide)⟩
  · show Steps p.tables e below (T159.setTop (mkF m 14 #[.val (.ref b1), .val (.int (1 : Int32))] [(.int ((x1 &&& (255 : Int32)).toUInt32.toUInt16.toUInt32.toInt32))])) _
    exact retN X159 hx (t := .char) Bd.returns (by simp) (hb hby d9_14) hr
  · show Qrm9_3N Z b1 x0 x1 x2 k1 h0 n0 _ T159.heap _
    rw [e159]
    exact ⟨rfl, N159, rfl⟩
def Qrm7_3N (Z : State) (a1 : Addr) (cs : Int32) (x0 : Int32) (x1 : Int32) (x2 : Int32) (b1 : Addr) (k1 : ClassId) (h0 : Heap) (n0 : Nat) (v : Option Value) (h : Heap) (L : List Loc) : Prop := v = some (.int (nar .char (nar .char ((x1 &&& (255 : Int32)).toUInt32.toUInt16.toUInt32.toInt32)))) ∧ Fr n0 L ∧ h = h0
theorem efrm7_3N (m : MethodId) (x0 : Addr) : entryFrame m #[(.ref x0), (.int (1 : Int32))] 2 = mkF m 0 #[.val (.ref x0), .val (.int (1 : Int32))] [] := by first | (simp [entryFrame, mkF, argsToLocals, Value.category]; done) | rfl
set_option maxRecDepth 65536 in
set_option maxHeartbeats 40000000 in
theorem rm7_3N (l : Launch) (Z : State) (a0 : Array Value) (hw : ∀ d ∈ tables_1, d.before a0 Z = true) (ws : List Jvm.Cond) (a1 : Addr) (cs : Int32) (x0 : Int32) (x1 : Int32) (x2 : Int32) (b1 : Addr) (k1 : ClassId) (h0 : Heap) (n0 : Nat) (Z0 : n0 ≤ h0.size) (P0 : Exa Z h0 a1 "java/lang/String") (P1 : Sta Z h0 "java/lang/String" "COMPACT_STRINGS" "Z" (.int cs)) (P2 : Sta Z h0 "jdk/internal/util/Preconditions" "SIOOBE_FORMATTER" "Ljava/util/function/BiFunction;" .null) (P3 : Fld Z h0 a1 "java/lang/String" "coder" "B" (.int (0 : Int32))) (P4 : Fld Z h0 a1 "java/lang/String" "value" "[B" (.ref b1)) (P5 : Arv Z h0 b1 k1 .byte (3 : Int32) [(.int x0), (.int x1), (.int x2)] (.int (0 : Int32))) (hcs : ¬ (cs = (0 : Int32))) :
    MetFree l (⟨"java/lang/String", "charAt", "(I)C"⟩ : MethodName) (head1 (Jvm.Cond.code (⟨"java/lang/String", "charAt", "(I)C"⟩ : MethodName) jdk_42_method_56_code 2 (some .char) :: ws) ({ frames := 3, cells := 0, slots := 0, locals := 40 } : Room)) (fun a U => a = #[(.ref a1), (.int (1 : Int32))] ∧ Z.Warmed39 U.vm ∧ U.heap = h0) (fun _ _ _ _ _ => True) (fun _ U o U' => ∃ v L, o = .returned v ∧ Qrm7_3N Z a1 cs x0 x1 x2 b1 k1 h0 n0 v U'.heap L ∧ FrameEnd U o U' L ({ frames := 3, cells := 0, slots := 0, locals := 40 } : Room).cells ({ frames := 3, cells := 0, slots := 0, locals := 40 } : Room).slots) := by
  refine MetFree.of_bodySF (plainFor_of_name pn_3) hisR ?_
  intro p e s m args below meth c s₁ Bd hml0 hP hK
  obtain ⟨rfl, hZ, hh⟩ := hP
  have hx := Bd.exec
  have hby := Bd.bytes
  have hml : c.maxLocals = 2 := hml0
  have hown : s.vm.findClass "java/lang/String" = some m.cls := findClass_of_methodNamed Bd.named
  have hnm := (name_of_methodNamed Bd.named Bd.method).1
  have X0 : Stand p l e ({ frames := 3, cells := 0, slots := 0, locals := 40 } : Room) s m #[(.ref a1), (.int (1 : Int32))] below meth c s₁ [] 0 0 := Stand.of_body Bd
  have e0 : s₁.heap = h0 := by rw [← hh, Bd.state]; rfl
  have N0 := Fr.nil n0
  have K0 : Keep h0 h0 [] := Keep.refl h0 _
  refine own_go (B := s₁.setTop (mkF m 0 #[.val (.ref a1), .val (.int (1 : Int32))] [])) (fun t k => castTop (efrm7_3N m a1) k) ?_
  refine own_go (A := s₁.setTop (mkF m 0 #[.val (.ref a1), .val (.int (1 : Int32))] [])) (B := s₁.setTop (mkF m 1 #[.val (.ref a1), .val (.int (1 : Int32))] [(.ref a1)])) (fun t k => ?_) ?_
  · show Steps p.tables e below (s₁.setTop (mkF m 0 #[.val (.ref a1), .val (.int (1 : Int32))] [])) _
    refine XS.aloadN X0.here hx rfl (hb hby d7_0) rfl rfl ?_
    exact k
  obtain ⟨cq161, kq161, q161a, q161b, q161c⟩ := isOf hZ e0 P0
  obtain ⟨_, _, ⟨T161, L161, k161, n161⟩, -, X161, ⟨Lc161, hQ161, l161, y161, z161⟩, st161⟩ := X0.virtualBack hx (y := (⟨"java/lang/String", "isLatin1", "()Z"⟩ : MethodName)) (z := (⟨"java/lang/String", "isLatin1", "()Z"⟩ : MethodName)) hown (mvT hZ (hw _ (List.mem_of_getElem? (i := 56) rfl))) (mvT hZ (hw _ (List.mem_of_getElem? (i := 57) rfl))) (notFace_of_selects (args := #[]) (mvT hZ (hw _ (List.mem_of_getElem? (i := 59) rfl)))) (mvT hZ (hw _ (List.mem_of_getElem? (i := 59) rfl))) (mvT hZ (hw _ (List.mem_of_getElem? (i := 58) rfl))) (by decide) (backOf (W := 0) (rm8 l Z a0 hw [] a1 cs h0 n0 Z0 P1 P3 hcs) hZ (hw _ (List.mem_of_getElem? (i := 60) rfl)) (hw _ (List.mem_of_getElem? (i := 39) rfl)) (by decide) (by decide)) q161a q161c (g := (mkF m 1 #[.val (.ref a1), .val (.int (1 : Int32))] [(.ref a1)])) rfl (by rw [hml]; rfl) (Steps.refl _) (argsL := []) (rest := []) (lenOf pd_4 rfl) rfl (by show 2 * 0 + _ ≤ _; exact Nat.le_of_eq rfl) (hb hby d7_1) (fun _ _ => ⟨rfl, e0, (by decide : 0 + 0 ≤ _), (by decide : 0 + 0 ≤ _)⟩)
  dsimp only [Pt.U, Pt.locs, Pt.cells, Pt.slots] at X161 l161 y161 z161 st161 hQ161
  subst l161 y161 z161
  obtain ⟨rfl, Nq161, e161⟩ := hQ161
  have N161 := Fr.app N0 Nq161
  refine own_go (A := _) (B := T161.setTop (mkF m 4 #[.val (.ref a1), .val (.int (1 : Int32))] [(.int (1 : Int32))])) (fun t k => st161.trans k) ?_
  refine own_go (A := T161.setTop (mkF m 4 #[.val (.ref a1), .val (.int (1 : Int32))] [(.int (1 : Int32))])) (B := T161.setTop (mkF m 8 #[.val (.ref a1), .val (.int (1 : Int32))] [(.ref a1)])) (fun t k => ?_) ?_
  · show Steps p.tables e below (T161.setTop (mkF m 4 #[.val (.ref a1), .val (.int (1 : Int32))] [(.int (1 : Int32))])) _
    refine XS.ifNo X161.here hx rfl (hb hby d7_4) rfl ((if0 _ _).trans (feq (by decide : ¬ ((1 : Int32) = (0 : Int32)))).1) ?_
    show Steps p.tables e below (T161.setTop (mkF m 7 #[.val (.ref a1), .val (.int (1 : Int32))] [])) _
    refine XS.aloadN X161.here hx rfl (hb hby d7_7) rfl rfl ?_
    exact k
  obtain ⟨T163, X163, e163, st163⟩ := getF X161 hx hZ hown (host := "") (Or.inl (hw _ (List.mem_of_getElem? (i := 41) rfl))) Via.refl e161 P4 (g := (mkF m 8 #[.val (.ref a1), .val (.int (1 : Int32))] [(.ref a1)])) rfl rfl (hb hby d7_8)
  refine own_go st163 ?_
  refine own_go (A := T163.setTop (mkF m 11 #[.val (.ref a1), .val (.int (1 : Int32))] [(.ref b1)])) (B := T163.setTop (mkF m 12 #[.val (.ref a1), .val (.int (1 : Int32))] [(.int (1 : Int32)), (.ref b1)])) (fun t k => ?_) ?_
  · show Steps p.tables e below (T163.setTop (mkF m 11 #[.val (.ref a1), .val (.int (1 : Int32))] [(.ref b1)])) _
    refine XS.iloadN X163.here hx rfl (hb hby d7_11) rfl ?_
    exact k
  obtain ⟨_, _, ⟨T164, L164, k164, n164⟩, -, X164, ⟨Lc164, hQ164, l164, y164, z164⟩, st164⟩ := Jvm.LawKit.callS X163 hx (y := (⟨"java/lang/StringLatin1", "charAt", "([BI)C"⟩ : MethodName)) hown (mvT hZ (hw _ (List.mem_of_getElem? (i := 61) rfl))) (mvT hZ (hw _ (List.mem_of_getElem? (i := 62) rfl))) (mvT hZ (hw _ (List.mem_of_getElem? (i := 63) rfl))) (mvT hZ (hw _ (List.mem_of_getElem? (i := 64) rfl))) (by decide) (backOf (W := 0) (rm9_3N l Z a0 hw [] b1 x0 x1 x2 k1 h0 n0 Z0 P2 P5) hZ (hw _ (List.mem_of_getElem? (i := 64) rfl)) (hw _ (List.mem_of_getElem? (i := 63) rfl)) (by decide) (by decide)) (g := (mkF m 12 #[.val (.ref a1), .val (.int (1 : Int32))] [(.int (1 : Int32)), (.ref b1)])) rfl (by rw [hml]; rfl) (argsL := [(.ref b1), (.int (1 : Int32))]) (rest := []) (lenOf pd_5 rfl) rfl (by show 2 * 0 + _ ≤ _; exact Nat.le_of_eq rfl) (hb hby d7_12) (fun _ _ => ⟨rfl, e163, (by decide : 0 + 0 ≤ _), (by decide : 0 + 0 ≤ _)⟩)
  dsimp only [Pt.U, Pt.locs, Pt.cells, Pt.slots] at X164 l164 y164 z164 st164 hQ164
  subst l164 y164 z164
  obtain ⟨rfl, Nq164, e164⟩ := hQ164
  have N164 := Fr.app N161 Nq164
  refine own_go (A := _) (B := T164.setTop (mkF m 15 #[.val (.ref a1), .val (.int (1 : Int32))] [(.int (nar .char ((x1 &&& (255 : Int32)).toUInt32.toUInt16.toUInt32.toInt32)))])) st164 ?_
  obtain ⟨fs, hr, hrun, hended, hW, hsame⟩ := X164.leave (v := some (.int (nar .char (nar .char ((x1 &&& (255 : Int32)).toUInt32.toUInt16.toUInt32.toInt32))))) (fun h => by rw [Bd.returns] at h; cases h)
  refine ⟨_, _, ?_, hrun, hended, _, _, rfl, ?_, ⟨_, rfl⟩, hW, hsame.mono (by decide) (by decide)⟩
  · show Steps p.tables e below (T164.setTop (mkF m 15 #[.val (.ref a1), .val (.int (1 : Int32))] [(.int (nar .char ((x1 &&& (255 : Int32)).toUInt32.toUInt16.toUInt32.toInt32)))])) _
    exact retN X164 hx (t := .char) Bd.returns (by simp) (hb hby d7_15) hr
  · show Qrm7_3N Z a1 cs x0 x1 x2 b1 k1 h0 n0 _ T164.heap _
    rw [e164]
    exact ⟨rfl, N164, rfl⟩
def Qrm11_4N (Z : State)  (h0 : Heap) (n0 : Nat) (v : Option Value) (h : Heap) (L : List Loc) : Prop := v = some (.int (1 : Int32)) ∧ Fr n0 L ∧ h = h0
theorem efrm11_4N (m : MethodId)  : entryFrame m #[(.int (1 : Int32)), (.int (4 : Int32)), .null] 3 = mkF m 0 #[.val (.int (1 : Int32)), .val (.int (4 : Int32)), .val .null] [] := by first | (simp [entryFrame, mkF, argsToLocals, Value.category]; done) | rfl
set_option maxRecDepth 65536 in
set_option maxHeartbeats 40000000 in
theorem rm11_4N (l : Launch) (Z : State) (a0 : Array Value) (hw : ∀ d ∈ tables_1, d.before a0 Z = true) (ws : List Jvm.Cond)  (h0 : Heap) (n0 : Nat) (Z0 : n0 ≤ h0.size)  :
    MetFree l (⟨"jdk/internal/util/Preconditions", "checkIndex", "(IILjava/util/function/BiFunction;)I"⟩ : MethodName) (head1 (Jvm.Cond.code (⟨"jdk/internal/util/Preconditions", "checkIndex", "(IILjava/util/function/BiFunction;)I"⟩ : MethodName) jdk_41_method_11_code 3 (some .int) :: ws) ({ frames := 0, cells := 0, slots := 0, locals := 0 } : Room)) (fun a U => a = #[(.int (1 : Int32)), (.int (4 : Int32)), .null] ∧ Z.Warmed39 U.vm ∧ U.heap = h0) (fun _ _ _ _ _ => True) (fun _ U o U' => ∃ v L, o = .returned v ∧ Qrm11_4N Z  h0 n0 v U'.heap L ∧ FrameEnd U o U' L ({ frames := 0, cells := 0, slots := 0, locals := 0 } : Room).cells ({ frames := 0, cells := 0, slots := 0, locals := 0 } : Room).slots) := by
  refine MetFree.of_bodySF (plainFor_of_name pn_5) hisR ?_
  intro p e s m args below meth c s₁ Bd hml0 hP hK
  obtain ⟨rfl, hZ, hh⟩ := hP
  have hx := Bd.exec
  have hby := Bd.bytes
  have hml : c.maxLocals = 3 := hml0
  have hown : s.vm.findClass "jdk/internal/util/Preconditions" = some m.cls := findClass_of_methodNamed Bd.named
  have hnm := (name_of_methodNamed Bd.named Bd.method).1
  have X0 : Stand p l e ({ frames := 0, cells := 0, slots := 0, locals := 0 } : Room) s m #[(.int (1 : Int32)), (.int (4 : Int32)), .null] below meth c s₁ [] 0 0 := Stand.of_body Bd
  have e0 : s₁.heap = h0 := by rw [← hh, Bd.state]; rfl
  have N0 := Fr.nil n0
  have K0 : Keep h0 h0 [] := Keep.refl h0 _
  refine own_go (B := s₁.setTop (mkF m 0 #[.val (.int (1 : Int32)), .val (.int (4 : Int32)), .val .null] [])) (fun t k => castTop (efrm11_4N m ) k) ?_
  refine own_go (A := s₁.setTop (mkF m 0 #[.val (.int (1 : Int32)), .val (.int (4 : Int32)), .val .null] [])) (B := s₁.setTop (mkF m 17 #[.val (.int (1 : Int32)), .val (.int (4 : Int32)), .val .null] [(.int (1 : Int32))])) (fun t k => ?_) ?_
  · show Steps p.tables e below (s₁.setTop (mkF m 0 #[.val (.int (1 : Int32)), .val (.int (4 : Int32)), .val .null] [])) _
    refine XS.iloadN X0.here hx rfl (hb hby d11_0) rfl ?_
    show Steps p.tables e below (s₁.setTop (mkF m 1 #[.val (.int (1 : Int32)), .val (.int (4 : Int32)), .val .null] [(.int (1 : Int32))])) _
    refine XS.ifNo X0.here hx rfl (hb hby d11_1) rfl ((if0 _ _).trans (flt (by decide : ¬ ((1 : Int32) < (0 : Int32)))).1) ?_
    show Steps p.tables e below (s₁.setTop (mkF m 4 #[.val (.int (1 : Int32)), .val (.int (4 : Int32)), .val .null] [])) _
    refine XS.iloadN X0.here hx rfl (hb hby d11_4) rfl ?_
    show Steps p.tables e below (s₁.setTop (mkF m 5 #[.val (.int (1 : Int32)), .val (.int (4 : Int32)), .val .null] [(.int (1 : Int32))])) _
    refine XS.iloadN X0.here hx rfl (hb hby d11_5) rfl ?_
    show Steps p.tables e below (s₁.setTop (mkF m 6 #[.val (.int (1 : Int32)), .val (.int (4 : Int32)), .val .null] [(.int (4 : Int32)), (.int (1 : Int32))])) _
    refine XS.icmpYes X0.here hx rfl (pc0 := 6) (pc' := 16) rfl (hb hby d11_6) rfl (tlt (by decide : ((1 : Int32) < (4 : Int32)))).1 (by decide) (by decide) ?_
    show Steps p.tables e below (s₁.setTop (mkF m 16 #[.val (.int (1 : Int32)), .val (.int (4 : Int32)), .val .null] [])) _
    refine XS.iloadN X0.here hx rfl (hb hby d11_16) rfl ?_
    exact k
  obtain ⟨fs, hr, hrun, hended, hW, hsame⟩ := X0.leave (v := some (.int (1 : Int32))) (fun h => by rw [Bd.returns] at h; cases h)
  refine ⟨_, _, ?_, hrun, hended, _, _, rfl, ?_, ⟨_, rfl⟩, hW, hsame.mono (by decide) (by decide)⟩
  · show Steps p.tables e below (s₁.setTop (mkF m 17 #[.val (.int (1 : Int32)), .val (.int (4 : Int32)), .val .null] [(.int (1 : Int32))])) _
    exact retOut X0 hx Bd.returns rfl (Or.inl ⟨rfl, Or.inl rfl, _, rfl⟩) (hb hby d11_17) hr
  · show Qrm11_4N Z  h0 n0 _ s₁.heap _
    rw [e0]
    exact ⟨rfl, N0, rfl⟩
def Qrm10_4N (Z : State)  (h0 : Heap) (n0 : Nat) (v : Option Value) (h : Heap) (L : List Loc) : Prop := v = none ∧ Fr n0 L ∧ h = h0
theorem efrm10_4N (m : MethodId)  : entryFrame m #[(.int (1 : Int32)), (.int (4 : Int32))] 2 = mkF m 0 #[.val (.int (1 : Int32)), .val (.int (4 : Int32))] [] := by first | (simp [entryFrame, mkF, argsToLocals, Value.category]; done) | rfl
set_option maxRecDepth 65536 in
set_option maxHeartbeats 40000000 in
theorem rm10_4N (l : Launch) (Z : State) (a0 : Array Value) (hw : ∀ d ∈ tables_1, d.before a0 Z = true) (ws : List Jvm.Cond)  (h0 : Heap) (n0 : Nat) (Z0 : n0 ≤ h0.size) (P0 : Sta Z h0 "jdk/internal/util/Preconditions" "SIOOBE_FORMATTER" "Ljava/util/function/BiFunction;" .null) :
    MetFree l (⟨"java/lang/String", "checkIndex", "(II)V"⟩ : MethodName) (head1 (Jvm.Cond.code (⟨"java/lang/String", "checkIndex", "(II)V"⟩ : MethodName) jdk_42_method_155_code 2 none :: ws) ({ frames := 1, cells := 0, slots := 0, locals := 14 } : Room)) (fun a U => a = #[(.int (1 : Int32)), (.int (4 : Int32))] ∧ Z.Warmed39 U.vm ∧ U.heap = h0) (fun _ _ _ _ _ => True) (fun _ U o U' => ∃ v L, o = .returned v ∧ Qrm10_4N Z  h0 n0 v U'.heap L ∧ FrameEnd U o U' L ({ frames := 1, cells := 0, slots := 0, locals := 14 } : Room).cells ({ frames := 1, cells := 0, slots := 0, locals := 14 } : Room).slots) := by
  refine MetFree.of_bodySF (plainFor_of_name pn_3) hisR ?_
  intro p e s m args below meth c s₁ Bd hml0 hP hK
  obtain ⟨rfl, hZ, hh⟩ := hP
  have hx := Bd.exec
  have hby := Bd.bytes
  have hml : c.maxLocals = 2 := hml0
  have hown : s.vm.findClass "java/lang/String" = some m.cls := findClass_of_methodNamed Bd.named
  have hnm := (name_of_methodNamed Bd.named Bd.method).1
  have X0 : Stand p l e ({ frames := 1, cells := 0, slots := 0, locals := 14 } : Room) s m #[(.int (1 : Int32)), (.int (4 : Int32))] below meth c s₁ [] 0 0 := Stand.of_body Bd
  have e0 : s₁.heap = h0 := by rw [← hh, Bd.state]; rfl
  have N0 := Fr.nil n0
  have K0 : Keep h0 h0 [] := Keep.refl h0 _
  refine own_go (B := s₁.setTop (mkF m 0 #[.val (.int (1 : Int32)), .val (.int (4 : Int32))] [])) (fun t k => castTop (efrm10_4N m ) k) ?_
  refine own_go (A := s₁.setTop (mkF m 0 #[.val (.int (1 : Int32)), .val (.int (4 : Int32))] [])) (B := s₁.setTop (mkF m 2 #[.val (.int (1 : Int32)), .val (.int (4 : Int32))] [(.int (4 : Int32)), (.int (1 : Int32))])) (fun t k => ?_) ?_
  · show Steps p.tables e below (s₁.setTop (mkF m 0 #[.val (.int (1 : Int32)), .val (.int (4 : Int32))] [])) _
    refine XS.iloadN X0.here hx rfl (hb hby d10_0) rfl ?_
    show Steps p.tables e below (s₁.setTop (mkF m 1 #[.val (.int (1 : Int32)), .val (.int (4 : Int32))] [(.int (1 : Int32))])) _
    refine XS.iloadN X0.here hx rfl (hb hby d10_1) rfl ?_
    exact k
  obtain ⟨T167, X167, e167, st167⟩ := getS2 X0 hx hZ hown (host := "") (Or.inl (hw _ (List.mem_of_getElem? (i := 68) rfl))) Via.refl e0 P0 (g := (mkF m 2 #[.val (.int (1 : Int32)), .val (.int (4 : Int32))] [(.int (4 : Int32)), (.int (1 : Int32))])) rfl (hb hby d10_2)
  refine own_go st167 ?_
  obtain ⟨_, _, ⟨T168, L168, k168, n168⟩, -, X168, ⟨Lc168, hQ168, l168, y168, z168⟩, st168⟩ := Jvm.LawKit.callS X167 hx (y := (⟨"jdk/internal/util/Preconditions", "checkIndex", "(IILjava/util/function/BiFunction;)I"⟩ : MethodName)) hown (mvT hZ (hw _ (List.mem_of_getElem? (i := 70) rfl))) (mvT hZ (hw _ (List.mem_of_getElem? (i := 71) rfl))) (mvT hZ (hw _ (List.mem_of_getElem? (i := 69) rfl))) (mvT hZ (hw _ (List.mem_of_getElem? (i := 72) rfl))) (by decide) (backOf (W := 0) (rm11_4N l Z a0 hw []  h0 n0 Z0 ) hZ (hw _ (List.mem_of_getElem? (i := 72) rfl)) (hw _ (List.mem_of_getElem? (i := 69) rfl)) (by decide) (by decide)) (g := (mkF m 5 #[.val (.int (1 : Int32)), .val (.int (4 : Int32))] [.null, (.int (4 : Int32)), (.int (1 : Int32))])) rfl (by rw [hml]; rfl) (argsL := [(.int (1 : Int32)), (.int (4 : Int32)), .null]) (rest := []) (lenOf pd_2 rfl) rfl (by show 2 * 0 + _ ≤ _; exact Nat.le_of_eq rfl) (hb hby d10_5) (fun _ _ => ⟨rfl, e167, (by decide : 0 + 0 ≤ _), (by decide : 0 + 0 ≤ _)⟩)
  dsimp only [Pt.U, Pt.locs, Pt.cells, Pt.slots] at X168 l168 y168 z168 st168 hQ168
  subst l168 y168 z168
  obtain ⟨rfl, Nq168, e168⟩ := hQ168
  have N168 := Fr.app N0 Nq168
  refine own_go (A := _) (B := T168.setTop (mkF m 8 #[.val (.int (1 : Int32)), .val (.int (4 : Int32))] [(.int (1 : Int32))])) st168 ?_
  refine own_go (A := T168.setTop (mkF m 8 #[.val (.int (1 : Int32)), .val (.int (4 : Int32))] [(.int (1 : Int32))])) (B := T168.setTop (mkF m 9 #[.val (.int (1 : Int32)), .val (.int (4 : Int32))] [])) (fun t k => ?_) ?_
  · show Steps p.tables e below (T168.setTop (mkF m 8 #[.val (.int (1 : Int32)), .val (.int (4 : Int32))] [(.int (1 : Int32))])) _
    refine XS.pop X168.here hx rfl (hb hby d10_8) rfl rfl ?_
    exact k
  obtain ⟨fs, hr, hrun, hended, hW, hsame⟩ := X168.leave (v := none) (fun _ => rfl)
  refine ⟨_, _, ?_, hrun, hended, _, _, rfl, ?_, ⟨_, rfl⟩, hW, hsame.mono (by decide) (by decide)⟩
  · show Steps p.tables e below (T168.setTop (mkF m 9 #[.val (.int (1 : Int32)), .val (.int (4 : Int32))] [])) _
    exact X168.returnOut hx Bd.returns (hb hby d10_9) hr
  · show Qrm10_4N Z  h0 n0 _ T168.heap _
    rw [e168]
    exact ⟨rfl, N168, rfl⟩
def Qrm9_4N (Z : State) (b1 : Addr) (x0 : Int32) (x1 : Int32) (x2 : Int32) (x3 : Int32) (k1 : ClassId) (h0 : Heap) (n0 : Nat) (v : Option Value) (h : Heap) (L : List Loc) : Prop := v = some (.int (nar .char ((x1 &&& (255 : Int32)).toUInt32.toUInt16.toUInt32.toInt32))) ∧ Fr n0 L ∧ h = h0
theorem efrm9_4N (m : MethodId) (x0 : Addr) : entryFrame m #[(.ref x0), (.int (1 : Int32))] 2 = mkF m 0 #[.val (.ref x0), .val (.int (1 : Int32))] [] := by first | (simp [entryFrame, mkF, argsToLocals, Value.category]; done) | rfl
set_option maxRecDepth 65536 in
set_option maxHeartbeats 40000000 in
theorem rm9_4N (l : Launch) (Z : State) (a0 : Array Value) (hw : ∀ d ∈ tables_1, d.before a0 Z = true) (ws : List Jvm.Cond) (b1 : Addr) (x0 : Int32) (x1 : Int32) (x2 : Int32) (x3 : Int32) (k1 : ClassId) (h0 : Heap) (n0 : Nat) (Z0 : n0 ≤ h0.size) (P0 : Sta Z h0 "jdk/internal/util/Preconditions" "SIOOBE_FORMATTER" "Ljava/util/function/BiFunction;" .null) (P1 : Arv Z h0 b1 k1 .byte (4 : Int32) [(.int x0), (.int x1), (.int x2), (.int x3)] (.int (0 : Int32))) :
    MetFree l (⟨"java/lang/StringLatin1", "charAt", "([BI)C"⟩ : MethodName) (head1 (Jvm.Cond.code (⟨"java/lang/StringLatin1", "charAt", "([BI)C"⟩ : MethodName) jdk_43_method_2_code 2 (some .char) :: ws) ({ frames := 2, cells := 0, slots := 0, locals := 27 } : Room)) (fun a U => a = #[(.ref b1), (.int (1 : Int32))] ∧ Z.Warmed39 U.vm ∧ U.heap = h0) (fun _ _ _ _ _ => True) (fun _ U o U' => ∃ v L, o = .returned v ∧ Qrm9_4N Z b1 x0 x1 x2 x3 k1 h0 n0 v U'.heap L ∧ FrameEnd U o U' L ({ frames := 2, cells := 0, slots := 0, locals := 27 } : Room).cells ({ frames := 2, cells := 0, slots := 0, locals := 27 } : Room).slots) := by
  refine MetFree.of_bodySF (plainFor_of_name pn_6) hisR ?_
  intro p e s m args below meth c s₁ Bd hml0 hP hK
  obtain ⟨rfl, hZ, hh⟩ := hP
  have hx := Bd.exec
  have hby := Bd.bytes
  have hml : c.maxLocals = 2 := hml0
  have hown : s.vm.findClass "java/lang/StringLatin1" = some m.cls := findClass_of_methodNamed Bd.named
  have hnm := (name_of_methodNamed Bd.named Bd.method).1
  have X0 : Stand p l e ({ frames := 2, cells := 0, slots := 0, locals := 27 } : Room) s m #[(.ref b1), (.int (1 : Int32))] below meth c s₁ [] 0 0 := Stand.of_body Bd
  have e0 : s₁.heap = h0 := by rw [← hh, Bd.state]; rfl
  have N0 := Fr.nil n0
  have K0 : Keep h0 h0 [] := Keep.refl h0 _
  refine own_go (B := s₁.setTop (mkF m 0 #[.val (.ref b1), .val (.int (1 : Int32))] [])) (fun t k => castTop (efrm9_4N m b1) k) ?_
  refine own_go (A := s₁.setTop (mkF m 0 #[.val (.ref b1), .val (.int (1 : Int32))] [])) (B := s₁.setTop (mkF m 2 #[.val (.ref b1), .val (.int (1 : Int32))] [(.ref b1), (.int (1 : Int32))])) (fun t k => ?_) ?_
  · show Steps p.tables e below (s₁.setTop (mkF m 0 #[.val (.ref b1), .val (.int (1 : Int32))] [])) _
    refine XS.iloadN X0.here hx rfl (hb hby d9_0) rfl ?_
    show Steps p.tables e below (s₁.setTop (mkF m 1 #[.val (.ref b1), .val (.int (1 : Int32))] [(.int (1 : Int32))])) _
    refine XS.aloadN X0.here hx rfl (hb hby d9_1) rfl rfl ?_
    exact k
  obtain ⟨cl169, Ar169, q169, S169, M169, Ha169, G169⟩ := id P1
  refine own_go (A := s₁.setTop (mkF m 2 #[.val (.ref b1), .val (.int (1 : Int32))] [(.ref b1), (.int (1 : Int32))])) (B := s₁.setTop (mkF m 3 #[.val (.ref b1), .val (.int (1 : Int32))] [(.int (4 : Int32)), (.int (1 : Int32))])) (fun t k => ?_) ?_
  · refine X0.arraylength hx (by rw [e0]; exact Ar169.1) (State.isArrayOf_alike hZ.alike Ar169.2.1) (g := (mkF m 2 #[.val (.ref b1), .val (.int (1 : Int32))] [(.ref b1), (.int (1 : Int32))])) rfl rfl (hb hby d9_2) _ ?_
    rw [len_of S169 M169]
    exact k
  obtain ⟨_, _, ⟨T170, L170, k170, n170⟩, -, X170, ⟨Lc170, hQ170, l170, y170, z170⟩, st170⟩ := Jvm.LawKit.callS X0 hx (y := (⟨"java/lang/String", "checkIndex", "(II)V"⟩ : MethodName)) hown (mvT hZ (hw _ (List.mem_of_getElem? (i := 65) rfl))) (mvT hZ (hw _ (List.mem_of_getElem? (i := 66) rfl))) (mvT hZ (hw _ (List.mem_of_getElem? (i := 39) rfl))) (mvT hZ (hw _ (List.mem_of_getElem? (i := 67) rfl))) (by decide) (backOf (W := 0) (rm10_4N l Z a0 hw []  h0 n0 Z0 P0) hZ (hw _ (List.mem_of_getElem? (i := 67) rfl)) (hw _ (List.mem_of_getElem? (i := 39) rfl)) (by decide) (by decide)) (g := (mkF m 3 #[.val (.ref b1), .val (.int (1 : Int32))] [(.int (4 : Int32)), (.int (1 : Int32))])) rfl (by rw [hml]; rfl) (argsL := [(.int (1 : Int32)), (.int (4 : Int32))]) (rest := []) (lenOf pd_3 rfl) rfl (by show 2 * 0 + _ ≤ _; exact Nat.le_of_eq rfl) (hb hby d9_3) (fun _ _ => ⟨rfl, e0, (by decide : 0 + 0 ≤ _), (by decide : 0 + 0 ≤ _)⟩)
  dsimp only [Pt.U, Pt.locs, Pt.cells, Pt.slots] at X170 l170 y170 z170 st170 hQ170
  subst l170 y170 z170
  obtain ⟨rfl, Nq170, e170⟩ := hQ170
  have N170 := Fr.app N0 Nq170
  refine own_go (A := _) (B := T170.setTop (mkF m 6 #[.val (.ref b1), .val (.int (1 : Int32))] [])) st170 ?_
  refine own_go (A := T170.setTop (mkF m 6 #[.val (.ref b1), .val (.int (1 : Int32))] [])) (B := T170.setTop (mkF m 8 #[.val (.ref b1), .val (.int (1 : Int32))] [(.int (1 : Int32)), (.ref b1)])) (fun t k => ?_) ?_
  · show Steps p.tables e below (T170.setTop (mkF m 6 #[.val (.ref b1), .val (.int (1 : Int32))] [])) _
    refine XS.aloadN X170.here hx rfl (hb hby d9_6) rfl rfl ?_
    show Steps p.tables e below (T170.setTop (mkF m 7 #[.val (.ref b1), .val (.int (1 : Int32))] [(.ref b1)])) _
    refine XS.iloadN X170.here hx rfl (hb hby d9_7) rfl ?_
    exact k
  obtain ⟨cl171, Ar171, q171, S171, M171, Ha171, G171⟩ := id P1
  have hin171 : ¬ ((1 : Int32) < 0 ∨ cl171.slots.size ≤ ((1 : Int32)).toNatClampNeg) := inb_of S171 ⟨by decide, by decide⟩
  refine own_go (A := T170.setTop (mkF m 8 #[.val (.ref b1), .val (.int (1 : Int32))] [(.int (1 : Int32)), (.ref b1)])) (X170.baloadBytes hx (j := (1 : Int32)) (v := (.int x1)) (by rw [e170]; exact Ar171.1) (State.isArrayOf_alike hZ.alike Ar171.2.1) Ar171.2.2 hin171 (Has.at Ha171 hin171 rfl) (g := (mkF m 8 #[.val (.ref b1), .val (.int (1 : Int32))] [(.int (1 : Int32)), (.ref b1)])) rfl rfl (hb hby d9_8)) ?_
  refine own_go (A := T170.setTop (mkF m 9 #[.val (.ref b1), .val (.int (1 : Int32))] [(.int x1)])) (B := T170.setTop (mkF m 14 #[.val (.ref b1), .val (.int (1 : Int32))] [(.int ((x1 &&& (255 : Int32)).toUInt32.toUInt16.toUInt32.toInt32))])) (fun t k => ?_) ?_
  · show Steps p.tables e below (T170.setTop (mkF m 9 #[.val (.ref b1), .val (.int (1 : Int32))] [(.int x1)])) _
    refine XS.sipush X170.here hx rfl (hb hby d9_9) ?_
    show Steps p.tables e below (T170.setTop (mkF m 12 #[.val (.ref b1), .val (.int (1 : Int32))] [(.int (255 : Int32)), (.int x1)])) _
    refine XS.iand X170.here hx rfl (hb hby d9_12) rfl ?_
    show Steps p.tables e below (T170.setTop (mkF m 13 #[.val (.ref b1), .val (.int (1 : Int32))] [(.int (x1 &&& (255 : Int32)))])) _
    refine XS.i2c X170.here hx rfl (hb hby d9_13) rfl ?_
    exact k
  obtain ⟨fs, hr, hrun, hended, hW, hsame⟩ := X170.leave (v := some (.int (nar .char ((x1 &&& (255 : Int32)).toUInt32.toUInt16.toUInt32.toInt32)))) (fun h => by rw [Bd.returns] at h; cases h)
  refine ⟨_, _, ?_, hrun, hended, _, _, rfl, ?_, ⟨_, rfl⟩, hW, hsame.mono (by decide) (by decide)⟩
  · show Steps p.tables e below (T170.setTop (mkF m 14 #[.val (.ref b1), .val (.int (1 : Int32))] [(.int ((x1 &&& (255 : Int32)).toUInt32.toUInt16.toUInt32.toInt32))])) _
    exact retN X170 hx (t := .char) Bd.returns (by simp) (hb hby d9_14) hr
  · show Qrm9_4N Z b1 x0 x1 x2 x3 k1 h0 n0 _ T170.heap _
    rw [e170]
    exact ⟨rfl, N170, rfl⟩
def Qrm7_4N (Z : State) (a1 : Addr) (cs : Int32) (x0 : Int32) (x1 : Int32) (x2 : Int32) (x3 : Int32) (b1 : Addr) (k1 : ClassId) (h0 : Heap) (n0 : Nat) (v : Option Value) (h : Heap) (L : List Loc) : Prop := v = some (.int (nar .char (nar .char ((x1 &&& (255 : Int32)).toUInt32.toUInt16.toUInt32.toInt32)))) ∧ Fr n0 L ∧ h = h0
theorem efrm7_4N (m : MethodId) (x0 : Addr) : entryFrame m #[(.ref x0), (.int (1 : Int32))] 2 = mkF m 0 #[.val (.ref x0), .val (.int (1 : Int32))] [] := by first | (simp [entryFrame, mkF, argsToLocals, Value.category]; done) | rfl
set_option maxRecDepth 65536 in
set_option maxHeartbeats 40000000 in
theorem rm7_4N (l : Launch) (Z : State) (a0 : Array Value) (hw : ∀ d ∈ tables_1, d.before a0 Z = true) (ws : List Jvm.Cond) (a1 : Addr) (cs : Int32) (x0 : Int32) (x1 : Int32) (x2 : Int32) (x3 : Int32) (b1 : Addr) (k1 : ClassId) (h0 : Heap) (n0 : Nat) (Z0 : n0 ≤ h0.size) (P0 : Exa Z h0 a1 "java/lang/String") (P1 : Sta Z h0 "java/lang/String" "COMPACT_STRINGS" "Z" (.int cs)) (P2 : Sta Z h0 "jdk/internal/util/Preconditions" "SIOOBE_FORMATTER" "Ljava/util/function/BiFunction;" .null) (P3 : Fld Z h0 a1 "java/lang/String" "coder" "B" (.int (0 : Int32))) (P4 : Fld Z h0 a1 "java/lang/String" "value" "[B" (.ref b1)) (P5 : Arv Z h0 b1 k1 .byte (4 : Int32) [(.int x0), (.int x1), (.int x2), (.int x3)] (.int (0 : Int32))) (hcs : ¬ (cs = (0 : Int32))) :
    MetFree l (⟨"java/lang/String", "charAt", "(I)C"⟩ : MethodName) (head1 (Jvm.Cond.code (⟨"java/lang/String", "charAt", "(I)C"⟩ : MethodName) jdk_42_method_56_code 2 (some .char) :: ws) ({ frames := 3, cells := 0, slots := 0, locals := 40 } : Room)) (fun a U => a = #[(.ref a1), (.int (1 : Int32))] ∧ Z.Warmed39 U.vm ∧ U.heap = h0) (fun _ _ _ _ _ => True) (fun _ U o U' => ∃ v L, o = .returned v ∧ Qrm7_4N Z a1 cs x0 x1 x2 x3 b1 k1 h0 n0 v U'.heap L ∧ FrameEnd U o U' L ({ frames := 3, cells := 0, slots := 0, locals := 40 } : Room).cells ({ frames := 3, cells := 0, slots := 0, locals := 40 } : Room).slots) := by
  refine MetFree.of_bodySF (plainFor_of_name pn_3) hisR ?_
  intro p e s m args below meth c s₁ Bd hml0 hP hK
  obtain ⟨rfl, hZ, hh⟩ := hP
  have hx := Bd.exec
  have hby := Bd.bytes
  have hml : c.maxLocals = 2 := hml0
  have hown : s.vm.findClass "java/lang/String" = some m.cls := findClass_of_methodNamed Bd.named
  have hnm := (name_of_methodNamed Bd.named Bd.method).1
  have X0 : Stand p l e ({ frames := 3, cells := 0, slots := 0, locals := 40 } : Room) s m #[(.ref a1), (.int (1 : Int32))] below meth c s₁ [] 0 0 := Stand.of_body Bd
  have e0 : s₁.heap = h0 := by rw [← hh, Bd.state]; rfl
  have N0 := Fr.nil n0
  have K0 : Keep h0 h0 [] := Keep.refl h0 _
  refine own_go (B := s₁.setTop (mkF m 0 #[.val (.ref a1), .val (.int (1 : Int32))] [])) (fun t k => castTop (efrm7_4N m a1) k) ?_
  refine own_go (A := s₁.setTop (mkF m 0 #[.val (.ref a1), .val (.int (1 : Int32))] [])) (B := s₁.setTop (mkF m 1 #[.val (.ref a1), .val (.int (1 : Int32))] [(.ref a1)])) (fun t k => ?_) ?_
  · show Steps p.tables e below (s₁.setTop (mkF m 0 #[.val (.ref a1), .val (.int (1 : Int32))] [])) _
    refine XS.aloadN X0.here hx rfl (hb hby d7_0) rfl rfl ?_
    exact k
  obtain ⟨cq172, kq172, q172a, q172b, q172c⟩ := isOf hZ e0 P0
  obtain ⟨_, _, ⟨T172, L172, k172, n172⟩, -, X172, ⟨Lc172, hQ172, l172, y172, z172⟩, st172⟩ := X0.virtualBack hx (y := (⟨"java/lang/String", "isLatin1", "()Z"⟩ : MethodName)) (z := (⟨"java/lang/String", "isLatin1", "()Z"⟩ : MethodName)) hown (mvT hZ (hw _ (List.mem_of_getElem? (i := 56) rfl))) (mvT hZ (hw _ (List.mem_of_getElem? (i := 57) rfl))) (notFace_of_selects (args := #[]) (mvT hZ (hw _ (List.mem_of_getElem? (i := 59) rfl)))) (mvT hZ (hw _ (List.mem_of_getElem? (i := 59) rfl))) (mvT hZ (hw _ (List.mem_of_getElem? (i := 58) rfl))) (by decide) (backOf (W := 0) (rm8 l Z a0 hw [] a1 cs h0 n0 Z0 P1 P3 hcs) hZ (hw _ (List.mem_of_getElem? (i := 60) rfl)) (hw _ (List.mem_of_getElem? (i := 39) rfl)) (by decide) (by decide)) q172a q172c (g := (mkF m 1 #[.val (.ref a1), .val (.int (1 : Int32))] [(.ref a1)])) rfl (by rw [hml]; rfl) (Steps.refl _) (argsL := []) (rest := []) (lenOf pd_4 rfl) rfl (by show 2 * 0 + _ ≤ _; exact Nat.le_of_eq rfl) (hb hby d7_1) (fun _ _ => ⟨rfl, e0, (by decide : 0 + 0 ≤ _), (by decide : 0 + 0 ≤ _)⟩)
  dsimp only [Pt.U, Pt.locs, Pt.cells, Pt.slots] at X172 l172 y172 z172 st172 hQ172
  subst l172 y172 z172
  obtain ⟨rfl, Nq172, e172⟩ := hQ172
  have N172 := Fr.app N0 Nq172
  refine own_go (A := _) (B := T172.setTop (mkF m 4 #[.val (.ref a1), .val (.int (1 : Int32))] [(.int (1 : Int32))])) (fun t k => st172.trans k) ?_
  refine own_go (A := T172.setTop (mkF m 4 #[.val (.ref a1), .val (.int (1 : Int32))] [(.int (1 : Int32))])) (B := T172.setTop (mkF m 8 #[.val (.ref a1), .val (.int (1 : Int32))] [(.ref a1)])) (fun t k => ?_) ?_
  · show Steps p.tables e below (T172.setTop (mkF m 4 #[.val (.ref a1), .val (.int (1 : Int32))] [(.int (1 : Int32))])) _
    refine XS.ifNo X172.here hx rfl (hb hby d7_4) rfl ((if0 _ _).trans (feq (by decide : ¬ ((1 : Int32) = (0 : Int32)))).1) ?_
    show Steps p.tables e below (T172.setTop (mkF m 7 #[.val (.ref a1), .val (.int (1 : Int32))] [])) _
    refine XS.aloadN X172.here hx rfl (hb hby d7_7) rfl rfl ?_
    exact k
  obtain ⟨T174, X174, e174, st174⟩ := getF X172 hx hZ hown (host := "") (Or.inl (hw _ (List.mem_of_getElem? (i := 41) rfl))) Via.refl e172 P4 (g := (mkF m 8 #[.val (.ref a1), .val (.int (1 : Int32))] [(.ref a1)])) rfl rfl (hb hby d7_8)
  refine own_go st174 ?_
  refine own_go (A := T174.setTop (mkF m 11 #[.val (.ref a1), .val (.int (1 : Int32))] [(.ref b1)])) (B := T174.setTop (mkF m 12 #[.val (.ref a1), .val (.int (1 : Int32))] [(.int (1 : Int32)), (.ref b1)])) (fun t k => ?_) ?_
  · show Steps p.tables e below (T174.setTop (mkF m 11 #[.val (.ref a1), .val (.int (1 : Int32))] [(.ref b1)])) _
    refine XS.iloadN X174.here hx rfl (hb hby d7_11) rfl ?_
    exact k
  obtain ⟨_, _, ⟨T175, L175, k175, n175⟩, -, X175, ⟨Lc175, hQ175, l175, y175, z175⟩, st175⟩ := Jvm.LawKit.callS X174 hx (y := (⟨"java/lang/StringLatin1", "charAt", "([BI)C"⟩ : MethodName)) hown (mvT hZ (hw _ (List.mem_of_getElem? (i := 61) rfl))) (mvT hZ (hw _ (List.mem_of_getElem? (i := 62) rfl))) (mvT hZ (hw _ (List.mem_of_getElem? (i := 63) rfl))) (mvT hZ (hw _ (List.mem_of_getElem? (i := 64) rfl))) (by decide) (backOf (W := 0) (rm9_4N l Z a0 hw [] b1 x0 x1 x2 x3 k1 h0 n0 Z0 P2 P5) hZ (hw _ (List.mem_of_getElem? (i := 64) rfl)) (hw _ (List.mem_of_getElem? (i := 63) rfl)) (by decide) (by decide)) (g := (mkF m 12 #[.val (.ref a1), .val (.int (1 : Int32))] [(.int (1 : Int32)), (.ref b1)])) rfl (by rw [hml]; rfl) (argsL := [(.ref b1), (.int (1 : Int32))]) (rest := []) (lenOf pd_5 rfl) rfl (by show 2 * 0 + _ ≤ _; exact Nat.le_of_eq rfl) (hb hby d7_12) (fun _ _ => ⟨rfl, e174, (by decide : 0 + 0 ≤ _), (by decide : 0 + 0 ≤ _)⟩)
  dsimp only [Pt.U, Pt.locs, Pt.cells, Pt.slots] at X175 l175 y175 z175 st175 hQ175
  subst l175 y175 z175
  obtain ⟨rfl, Nq175, e175⟩ := hQ175
  have N175 := Fr.app N172 Nq175
  refine own_go (A := _) (B := T175.setTop (mkF m 15 #[.val (.ref a1), .val (.int (1 : Int32))] [(.int (nar .char ((x1 &&& (255 : Int32)).toUInt32.toUInt16.toUInt32.toInt32)))])) st175 ?_
  obtain ⟨fs, hr, hrun, hended, hW, hsame⟩ := X175.leave (v := some (.int (nar .char (nar .char ((x1 &&& (255 : Int32)).toUInt32.toUInt16.toUInt32.toInt32))))) (fun h => by rw [Bd.returns] at h; cases h)
  refine ⟨_, _, ?_, hrun, hended, _, _, rfl, ?_, ⟨_, rfl⟩, hW, hsame.mono (by decide) (by decide)⟩
  · show Steps p.tables e below (T175.setTop (mkF m 15 #[.val (.ref a1), .val (.int (1 : Int32))] [(.int (nar .char ((x1 &&& (255 : Int32)).toUInt32.toUInt16.toUInt32.toInt32)))])) _
    exact retN X175 hx (t := .char) Bd.returns (by simp) (hb hby d7_15) hr
  · show Qrm7_4N Z a1 cs x0 x1 x2 x3 b1 k1 h0 n0 _ T175.heap _
    rw [e175]
    exact ⟨rfl, N175, rfl⟩
def Qrm0N (Z : State) (p1 : Int32) (cs : Int32) (s_Move_FIRST_CHILD : Addr) (s_Move_NEXT_SIBLING : Addr) (s_Move_CONVERSE_FIRST_CHILD : Addr) (s_Move_CONVERSE_NEXT_SIBLING : Addr) (s_Move_TO_DOCUMENT : Addr) (s_Move_FROM_DOCUMENT : Addr) (s_Modality_FIRST_CHILD : Addr) (t0 : Addr) (v0 : Addr) (kk0 : ClassId) (s_Modality_NEXT_SIBLING : Addr) (t1 : Addr) (v1 : Addr) (kk1 : ClassId) (s_Modality_CONVERSE_FIRST_CHILD : Addr) (t2 : Addr) (v2 : Addr) (kk2 : ClassId) (s_Modality_CONVERSE_NEXT_SIBLING : Addr) (t3 : Addr) (v3 : Addr) (kk3 : ClassId) (h0 : Heap) (n0 : Nat) (v : Option Value) (h : Heap) (L : List Loc) : Prop := v = some (.int (1 : Int32)) ∧ Fr n0 L
theorem efrm0N (m : MethodId) (x0 : Int32) : entryFrame m #[(.int x0)] maxLocals = mkF m 0 #[.val (.int x0), .unset, .unset, .unset, .unset, .unset, .unset] [] := by first | (simp [entryFrame, mkF, argsToLocals, Value.category, maxLocals]; done) | rfl
set_option maxRecDepth 65536 in
set_option maxHeartbeats 40000000 in
theorem rm0N (l : Launch) (Z : State) (a0 : Array Value) (hw : ∀ d ∈ tables_1, d.before a0 Z = true) (ws : List Jvm.Cond) (p1 : Int32) (cs : Int32) (s_Move_FIRST_CHILD : Addr) (s_Move_NEXT_SIBLING : Addr) (s_Move_CONVERSE_FIRST_CHILD : Addr) (s_Move_CONVERSE_NEXT_SIBLING : Addr) (s_Move_TO_DOCUMENT : Addr) (s_Move_FROM_DOCUMENT : Addr) (s_Modality_FIRST_CHILD : Addr) (t0 : Addr) (v0 : Addr) (kk0 : ClassId) (s_Modality_NEXT_SIBLING : Addr) (t1 : Addr) (v1 : Addr) (kk1 : ClassId) (s_Modality_CONVERSE_FIRST_CHILD : Addr) (t2 : Addr) (v2 : Addr) (kk2 : ClassId) (s_Modality_CONVERSE_NEXT_SIBLING : Addr) (t3 : Addr) (v3 : Addr) (kk3 : ClassId) (h0 : Heap) (n0 : Nat) (Z0 : n0 ≤ h0.size) (P0 : Sta Z h0 "java/lang/String" "COMPACT_STRINGS" "Z" (.int cs)) (P1 : Sta Z h0 "jdk/internal/util/Preconditions" "SIOOBE_FORMATTER" "Ljava/util/function/BiFunction;" .null) (P2 : Sta Z h0 "com/example/decider/decider/library/xpath/Move" "FIRST_CHILD" "Lcom/example/decider/decider/library/xpath/Move;" (.ref s_Move_FIRST_CHILD)) (P3 : Exa Z h0 s_Move_FIRST_CHILD "com/example/decider/decider/library/xpath/Move") (P4 : Fld Z h0 s_Move_FIRST_CHILD "java/lang/Enum" "ordinal" "I" (.int (0 : Int32))) (P5 : Fld Z h0 s_Move_FIRST_CHILD "com/example/decider/decider/library/xpath/Move" "modality" "Lcom/example/decider/decider/logic/formula/Modality;" (.ref s_Modality_FIRST_CHILD)) (P6 : Sta Z h0 "com/example/decider/decider/library/xpath/Move" "NEXT_SIBLING" "Lcom/example/decider/decider/library/xpath/Move;" (.ref s_Move_NEXT_SIBLING)) (P7 : Exa Z h0 s_Move_NEXT_SIBLING "com/example/decider/decider/library/xpath/Move") (P8 : Fld Z h0 s_Move_NEXT_SIBLING "java/lang/Enum" "ordinal" "I" (.int (1 : Int32))) (P9 : Fld Z h0 s_Move_NEXT_SIBLING "com/example/decider/decider/library/xpath/Move" "modality" "Lcom/example/decider/decider/logic/formula/Modality;" (.ref s_Modality_NEXT_SIBLING)) (P10 : Sta Z h0 "com/example/decider/decider/library/xpath/Move" "CONVERSE_FIRST_CHILD" "Lcom/example/decider/decider/library/xpath/Move;" (.ref s_Move_CONVERSE_FIRST_CHILD)) (P11 : Exa Z h0 s_Move_CONVERSE_FIRST_CHILD "com/example/decider/decider/library/xpath/Move") (P12 : Fld Z h0 s_Move_CONVERSE_FIRST_CHILD "java/lang/Enum" "ordinal" "I" (.int (2 : Int32))) (P13 : Fld Z h0 s_Move_CONVERSE_FIRST_CHILD "com/example/decider/decider/library/xpath/Move" "modality" "Lcom/example/decider/decider/logic/formula/Modality;" (.ref s_Modality_CONVERSE_FIRST_CHILD)) (P14 : Sta Z h0 "com/example/decider/decider/library/xpath/Move" "CONVERSE_NEXT_SIBLING" "Lcom/example/decider/decider/library/xpath/Move;" (.ref s_Move_CONVERSE_NEXT_SIBLING)) (P15 : Exa Z h0 s_Move_CONVERSE_NEXT_SIBLING "com/example/decider/decider/library/xpath/Move") (P16 : Fld Z h0 s_Move_CONVERSE_NEXT_SIBLING "java/lang/Enum" "ordinal" "I" (.int (3 : Int32))) (P17 : Fld Z h0 s_Move_CONVERSE_NEXT_SIBLING "com/example/decider/decider/library/xpath/Move" "modality" "Lcom/example/decider/decider/logic/formula/Modality;" (.ref s_Modality_CONVERSE_NEXT_SIBLING)) (P18 : Sta Z h0 "com/example/decider/decider/library/xpath/Move" "TO_DOCUMENT" "Lcom/example/decider/decider/library/xpath/Move;" (.ref s_Move_TO_DOCUMENT)) (P19 : Exa Z h0 s_Move_TO_DOCUMENT "com/example/decider/decider/library/xpath/Move") (P20 : Fld Z h0 s_Move_TO_DOCUMENT "java/lang/Enum" "ordinal" "I" (.int (4 : Int32))) (P21 : Fld Z h0 s_Move_TO_DOCUMENT "com/example/decider/decider/library/xpath/Move" "modality" "Lcom/example/decider/decider/logic/formula/Modality;" .null) (P22 : Sta Z h0 "com/example/decider/decider/library/xpath/Move" "FROM_DOCUMENT" "Lcom/example/decider/decider/library/xpath/Move;" (.ref s_Move_FROM_DOCUMENT)) (P23 : Exa Z h0 s_Move_FROM_DOCUMENT "com/example/decider/decider/library/xpath/Move") (P24 : Fld Z h0 s_Move_FROM_DOCUMENT "java/lang/Enum" "ordinal" "I" (.int (5 : Int32))) (P25 : Fld Z h0 s_Move_FROM_DOCUMENT "com/example/decider/decider/library/xpath/Move" "modality" "Lcom/example/decider/decider/logic/formula/Modality;" .null) (P26 : Exa Z h0 s_Modality_FIRST_CHILD "com/example/decider/decider/logic/formula/Modality") (P27 : Fld Z h0 s_Modality_FIRST_CHILD "com/example/decider/decider/logic/formula/Modality" "spelling" "Ljava/lang/String;" (.ref t0)) (P28 : Exa Z h0 t0 "java/lang/String") (P29 : Fld Z h0 t0 "java/lang/String" "value" "[B" (.ref v0)) (P30 : Fld Z h0 t0 "java/lang/String" "coder" "B" (.int (0 : Int32))) (P31 : Arv Z h0 v0 kk0 .byte (3 : Int32) [(.int (60 : Int32)), (.int (49 : Int32)), (.int (62 : Int32))] (.int (0 : Int32))) (P32 : Exa Z h0 s_Modality_NEXT_SIBLING "com/example/decider/decider/logic/formula/Modality") (P33 : Fld Z h0 s_Modality_NEXT_SIBLING "com/example/decider/decider/logic/formula/Modality" "spelling" "Ljava/lang/String;" (.ref t1)) (P34 : Exa Z h0 t1 "java/lang/String") (P35 : Fld Z h0 t1 "java/lang/String" "value" "[B" (.ref v1)) (P36 : Fld Z h0 t1 "java/lang/String" "coder" "B" (.int (0 : Int32))) (P37 : Arv Z h0 v1 kk1 .byte (3 : Int32) [(.int (60 : Int32)), (.int (50 : Int32)), (.int (62 : Int32))] (.int (0 : Int32))) (P38 : Exa Z h0 s_Modality_CONVERSE_FIRST_CHILD "com/example/decider/decider/logic/formula/Modality") (P39 : Fld Z h0 s_Modality_CONVERSE_FIRST_CHILD "com/example/decider/decider/logic/formula/Modality" "spelling" "Ljava/lang/String;" (.ref t2)) (P40 : Exa Z h0 t2 "java/lang/String") (P41 : Fld Z h0 t2 "java/lang/String" "value" "[B" (.ref v2)) (P42 : Fld Z h0 t2 "java/lang/String" "coder" "B" (.int (0 : Int32))) (P43 : Arv Z h0 v2 kk2 .byte (4 : Int32) [(.int (60 : Int32)), (.int (45 : Int32)), (.int (49 : Int32)), (.int (62 : Int32))] (.int (0 : Int32))) (P44 : Exa Z h0 s_Modality_CONVERSE_NEXT_SIBLING "com/example/decider/decider/logic/formula/Modality") (P45 : Fld Z h0 s_Modality_CONVERSE_NEXT_SIBLING "com/example/decider/decider/logic/formula/Modality" "spelling" "Ljava/lang/String;" (.ref t3)) (P46 : Exa Z h0 t3 "java/lang/String") (P47 : Fld Z h0 t3 "java/lang/String" "value" "[B" (.ref v3)) (P48 : Fld Z h0 t3 "java/lang/String" "coder" "B" (.int (0 : Int32))) (P49 : Arv Z h0 v3 kk3 .byte (4 : Int32) [(.int (60 : Int32)), (.int (45 : Int32)), (.int (50 : Int32)), (.int (62 : Int32))] (.int (0 : Int32))) (ne_s_Move_FIRST_CHILD_s_Move_CONVERSE_FIRST_CHILD : s_Move_FIRST_CHILD ≠ s_Move_CONVERSE_FIRST_CHILD) (ne_s_Move_FIRST_CHILD_s_Move_CONVERSE_NEXT_SIBLING : s_Move_FIRST_CHILD ≠ s_Move_CONVERSE_NEXT_SIBLING) (ne_s_Move_FIRST_CHILD_s_Move_TO_DOCUMENT : s_Move_FIRST_CHILD ≠ s_Move_TO_DOCUMENT) (ne_s_Move_NEXT_SIBLING_s_Move_CONVERSE_FIRST_CHILD : s_Move_NEXT_SIBLING ≠ s_Move_CONVERSE_FIRST_CHILD) (ne_s_Move_NEXT_SIBLING_s_Move_CONVERSE_NEXT_SIBLING : s_Move_NEXT_SIBLING ≠ s_Move_CONVERSE_NEXT_SIBLING) (ne_s_Move_NEXT_SIBLING_s_Move_TO_DOCUMENT : s_Move_NEXT_SIBLING ≠ s_Move_TO_DOCUMENT) (ne_s_Move_CONVERSE_NEXT_SIBLING_s_Move_CONVERSE_FIRST_CHILD : s_Move_CONVERSE_NEXT_SIBLING ≠ s_Move_CONVERSE_FIRST_CHILD) (ne_s_Move_TO_DOCUMENT_s_Move_CONVERSE_FIRST_CHILD : s_Move_TO_DOCUMENT ≠ s_Move_CONVERSE_FIRST_CHILD) (ne_s_Move_TO_DOCUMENT_s_Move_CONVERSE_NEXT_SIBLING : s_Move_TO_DOCUMENT ≠ s_Move_CONVERSE_NEXT_SIBLING) (ne_s_Move_FROM_DOCUMENT_s_Move_CONVERSE_FIRST_CHILD : s_Move_FROM_DOCUMENT ≠ s_Move_CONVERSE_FIRST_CHILD) (ne_s_Move_FROM_DOCUMENT_s_Move_CONVERSE_NEXT_SIBLING : s_Move_FROM_DOCUMENT ≠ s_Move_CONVERSE_NEXT_SIBLING) (ne_s_Move_FROM_DOCUMENT_s_Move_TO_DOCUMENT : s_Move_FROM_DOCUMENT ≠ s_Move_TO_DOCUMENT) (hcs : ¬ (cs = (0 : Int32))) :
    MetFree l x (head1 (Jvm.Cond.code x code maxLocals ret :: ws) room_1) (fun a U => a = #[(.int p1)] ∧ Z.Warmed39 U.vm ∧ U.heap = h0) (fun _ _ _ _ _ => True) (fun _ U o U' => ∃ v L, o = .returned v ∧ Qrm0N Z p1 cs s_Move_FIRST_CHILD s_Move_NEXT_SIBLING s_Move_CONVERSE_FIRST_CHILD s_Move_CONVERSE_NEXT_SIBLING s_Move_TO_DOCUMENT s_Move_FROM_DOCUMENT s_Modality_FIRST_CHILD t0 v0 kk0 s_Modality_NEXT_SIBLING t1 v1 kk1 s_Modality_CONVERSE_FIRST_CHILD t2 v2 kk2 s_Modality_CONVERSE_NEXT_SIBLING t3 v3 kk3 h0 n0 v U'.heap L ∧ FrameEnd U o U' L room_1.cells room_1.slots) := by
  refine MetFree.of_bodySF (plainFor_of_name pn_0) hisR ?_
  intro p e s m args below meth c s₁ Bd hml0 hP hK
  obtain ⟨rfl, hZ, hh⟩ := hP
  have hx := Bd.exec
  have hby := Bd.bytes
  have hml : c.maxLocals = 7 := hml0
  have hown : s.vm.findClass "com/example/decider/decider/library/xpath/MoveUpwardPinLaw" = some m.cls := findClass_of_methodNamed Bd.named
  have hnm := (name_of_methodNamed Bd.named Bd.method).1
  have X0 : Stand p l e room_1 s m #[(.int p1)] below meth c s₁ [] 0 0 := Stand.of_body Bd
  have e0 : s₁.heap = h0 := by rw [← hh, Bd.state]; rfl
  have N0 := Fr.nil n0
  have K0 : Keep h0 h0 [] := Keep.refl h0 _
  refine own_go (B := s₁.setTop (mkF m 0 #[.val (.int p1), .unset, .unset, .unset, .unset, .unset, .unset] [])) (fun t k => castTop (efrm0N m p1) k) ?_
  refine own_go (A := s₁.setTop (mkF m 0 #[.val (.int p1), .unset, .unset, .unset, .unset, .unset, .unset] [])) (B := s₁.setTop (mkF m 7 #[.val (.int p1), .unset, .unset, .unset, .unset, .unset, .unset] [(.int ((p1 &&& (2147483647 : Int32)) % (6 : Int32)))])) (fun t k => ?_) ?_
  · show Steps p.tables e below (s₁.setTop (mkF m 0 #[.val (.int p1), .unset, .unset, .unset, .unset, .unset, .unset] [])) _
    refine XS.iloadN X0.here hx rfl (hb hby at_0) rfl ?_
    show Steps p.tables e below (s₁.setTop (mkF m 1 #[.val (.int p1), .unset, .unset, .unset, .unset, .unset, .unset] [(.int p1)])) _
    refine X0.ldcInt hx hown (mvT hZ (hw _ (List.mem_of_getElem? (i := 0) rfl))) (g := (mkF m 1 #[.val (.int p1), .unset, .unset, .unset, .unset, .unset, .unset] [(.int p1)])) rfl (hb hby at_1) _ ?_
    show Steps p.tables e below (s₁.setTop (mkF m 3 #[.val (.int p1), .unset, .unset, .unset, .unset, .unset, .unset] [(.int (2147483647 : Int32)), (.int p1)])) _
    refine XS.iand X0.here hx rfl (hb hby at_3) rfl ?_
    show Steps p.tables e below (s₁.setTop (mkF m 4 #[.val (.int p1), .unset, .unset, .unset, .unset, .unset, .unset] [(.int (p1 &&& (2147483647 : Int32)))])) _
    refine XS.bipush X0.here hx rfl (hb hby at_4) ?_
    show Steps p.tables e below (s₁.setTop (mkF m 6 #[.val (.int p1), .unset, .unset, .unset, .unset, .unset, .unset] [(.int (6 : Int32)), (.int (p1 &&& (2147483647 : Int32)))])) _
    refine iremM X0 hx rfl (hb hby at_6) rfl (by decide) ?_
    exact k
  rcases own_rem _ with hk176 | hk176 | hk176 | hk176 | hk176 | hk176
  · rw [hk176]
    refine own_go (A := s₁.setTop (mkF m 7 #[.val (.int p1), .unset, .unset, .unset, .unset, .unset, .unset] [(.int (0 : Int32))])) (B := s₁.setTop (mkF m 9 #[.val (.int p1), .val (.int (0 : Int32)), .unset, .unset, .unset, .unset, .unset] [(.int (0 : Int32))])) (fun t k => ?_) ?_
    · show Steps p.tables e below (s₁.setTop (mkF m 7 #[.val (.int p1), .unset, .unset, .unset, .unset, .unset, .unset] [(.int (0 : Int32))])) _
      refine XS.istoreN X0.here hx rfl (hb hby at_7) rfl (l' := #[.val (.int p1), .val (.int (0 : Int32)), .unset, .unset, .unset, .unset, .unset]) rfl ?_
      show Steps p.tables e below (s₁.setTop (mkF m 8 #[.val (.int p1), .val (.int (0 : Int32)), .unset, .unset, .unset, .unset, .unset] [])) _
      refine XS.iloadN X0.here hx rfl (hb hby at_8) rfl ?_
      exact k
    obtain ⟨_, _, ⟨T177, L177, k177, n177⟩, -, X177, ⟨Lc177, hQ177, l177, y177, z177⟩, st177⟩ := Jvm.LawKit.callS X0 hx (y := (⟨"com/example/decider/decider/library/xpath/MoveUpwardPinLaw", "pick", "(I)Lcom/example/decider/decider/library/xpath/Move;"⟩ : MethodName)) hown (mvT hZ (hw _ (List.mem_of_getElem? (i := 1) rfl))) (mvT hZ (hw _ (List.mem_of_getElem? (i := 2) rfl))) (mvT hZ (hw _ (List.mem_of_getElem? (i := 3) rfl))) (mvT hZ (hw _ (List.mem_of_getElem? (i := 4) rfl))) (by decide) (backOf (W := 0) (rm1_0 l Z a0 hw [] s_Move_FIRST_CHILD h0 n0 Z0 P2) hZ (hw _ (List.mem_of_getElem? (i := 4) rfl)) (hw _ (List.mem_of_getElem? (i := 3) rfl)) (by decide) (by decide)) (g := (mkF m 9 #[.val (.int p1), .val (.int (0 : Int32)), .unset, .unset, .unset, .unset, .unset] [(.int (0 : Int32))])) rfl (by rw [hml]; rfl) (argsL := [(.int (0 : Int32))]) (rest := []) (lenOf pd_6 rfl) rfl (by show 2 * 0 + _ ≤ _; exact Nat.le_of_eq rfl) (hb hby at_9) (fun _ _ => ⟨rfl, e0, (by decide : 0 + 0 ≤ _), (by decide : 0 + 0 ≤ _)⟩)
    dsimp only [Pt.U, Pt.locs, Pt.cells, Pt.slots] at X177 l177 y177 z177 st177 hQ177
    subst l177 y177 z177
    obtain ⟨rfl, Nq177, e177⟩ := hQ177
    have N177 := Fr.app N0 Nq177
    refine own_go (A := _) (B := T177.setTop (mkF m 12 #[.val (.int p1), .val (.int (0 : Int32)), .unset, .unset, .unset, .unset, .unset] [(.ref s_Move_FIRST_CHILD)])) st177 ?_
    refine own_go (A := T177.setTop (mkF m 12 #[.val (.int p1), .val (.int (0 : Int32)), .unset, .unset, .unset, .unset, .unset] [(.ref s_Move_FIRST_CHILD)])) (B := T177.setTop (mkF m 14 #[.val (.int p1), .val (.int (0 : Int32)), .val (.ref s_Move_FIRST_CHILD), .unset, .unset, .unset, .unset] [(.ref s_Move_FIRST_CHILD)])) (fun t k => ?_) ?_
    · show Steps p.tables e below (T177.setTop (mkF m 12 #[.val (.int p1), .val (.int (0 : Int32)), .unset, .unset, .unset, .unset, .unset] [(.ref s_Move_FIRST_CHILD)])) _
      refine XS.astoreN X177.here hx rfl (hb hby at_12) rfl rfl (l' := #[.val (.int p1), .val (.int (0 : Int32)), .val (.ref s_Move_FIRST_CHILD), .unset, .unset, .unset, .unset]) rfl ?_
      show Steps p.tables e below (T177.setTop (mkF m 13 #[.val (.int p1), .val (.int (0 : Int32)), .val (.ref s_Move_FIRST_CHILD), .unset, .unset, .unset, .unset] [])) _
      refine XS.aloadN X177.here hx rfl (hb hby at_13) rfl rfl ?_
      exact k
    obtain ⟨cq178, kq178, q178a, q178b, q178c⟩ := isOf hZ e177 P3
    obtain ⟨_, _, ⟨T178, L178, k178, n178⟩, -, X178, ⟨Lc178, hQ178, l178, y178, z178⟩, st178⟩ := X177.virtualBack hx (y := (⟨"com/example/decider/decider/library/xpath/Move", "upward", "()Z"⟩ : MethodName)) (z := (⟨"com/example/decider/decider/library/xpath/Move", "upward", "()Z"⟩ : MethodName)) hown (mvT hZ (hw _ (List.mem_of_getElem? (i := 8) rfl))) (mvT hZ (hw _ (List.mem_of_getElem? (i := 9) rfl))) (notFace_of_selects (args := #[]) (mvT hZ (hw _ (List.mem_of_getElem? (i := 11) rfl)))) (mvT hZ (hw _ (List.mem_of_getElem? (i := 11) rfl))) (mvT hZ (hw _ (List.mem_of_getElem? (i := 10) rfl))) (by decide) (backOf (W := 0) (rm2 l Z a0 hw [] s_Move_FIRST_CHILD s_Move_CONVERSE_FIRST_CHILD s_Move_CONVERSE_NEXT_SIBLING s_Move_TO_DOCUMENT h0 n0 Z0 P10 P14 P18) hZ (hw _ (List.mem_of_getElem? (i := 12) rfl)) (hw _ (List.mem_of_getElem? (i := 6) rfl)) (by decide) (by decide)) q178a q178c (g := (mkF m 14 #[.val (.int p1), .val (.int (0 : Int32)), .val (.ref s_Move_FIRST_CHILD), .unset, .unset, .unset, .unset] [(.ref s_Move_FIRST_CHILD)])) rfl (by rw [hml]; rfl) (Steps.refl _) (argsL := []) (rest := []) (lenOf pd_4 rfl) rfl (by show 2 * 0 + _ ≤ _; exact Nat.le_of_eq rfl) (hb hby at_14) (fun _ _ => ⟨rfl, e177, (by decide : 0 + 0 ≤ _), (by decide : 0 + 0 ≤ _)⟩)
    dsimp only [Pt.U, Pt.locs, Pt.cells, Pt.slots] at X178 l178 y178 z178 st178 hQ178
    subst l178 y178 z178
    obtain ⟨rfl, Nq178, e178⟩ := hQ178
    have N178 := Fr.app N177 Nq178
    refine own_go (A := _) (B := T178.setTop (mkF m 17 #[.val (.int p1), .val (.int (0 : Int32)), .val (.ref s_Move_FIRST_CHILD), .unset, .unset, .unset, .unset] [(.int (frm2 s_Move_FIRST_CHILD s_Move_CONVERSE_FIRST_CHILD s_Move_CONVERSE_NEXT_SIBLING s_Move_TO_DOCUMENT))])) (fun t k => st178.trans k) ?_
    refine own_go (A := T178.setTop (mkF m 17 #[.val (.int p1), .val (.int (0 : Int32)), .val (.ref s_Move_FIRST_CHILD), .unset, .unset, .unset, .unset] [(.int (frm2 s_Move_FIRST_CHILD s_Move_CONVERSE_FIRST_CHILD s_Move_CONVERSE_NEXT_SIBLING s_Move_TO_DOCUMENT))])) (B := T178.setTop (mkF m 19 #[.val (.int p1), .val (.int (0 : Int32)), .val (.ref s_Move_FIRST_CHILD), .val (.int (frm2 s_Move_FIRST_CHILD s_Move_CONVERSE_FIRST_CHILD s_Move_CONVERSE_NEXT_SIBLING s_Move_TO_DOCUMENT)), .unset, .unset, .unset] [(.ref s_Move_FIRST_CHILD)])) (fun t k => ?_) ?_
    · show Steps p.tables e below (T178.setTop (mkF m 17 #[.val (.int p1), .val (.int (0 : Int32)), .val (.ref s_Move_FIRST_CHILD), .unset, .unset, .unset, .unset] [(.int (frm2 s_Move_FIRST_CHILD s_Move_CONVERSE_FIRST_CHILD s_Move_CONVERSE_NEXT_SIBLING s_Move_TO_DOCUMENT))])) _
      refine XS.istoreN X178.here hx rfl (hb hby at_17) rfl (l' := #[.val (.int p1), .val (.int (0 : Int32)), .val (.ref s_Move_FIRST_CHILD), .val (.int (frm2 s_Move_FIRST_CHILD s_Move_CONVERSE_FIRST_CHILD s_Move_CONVERSE_NEXT_SIBLING s_Move_TO_DOCUMENT)), .unset, .unset, .unset]) rfl ?_
      show Steps p.tables e below (T178.setTop (mkF m 18 #[.val (.int p1), .val (.int (0 : Int32)), .val (.ref s_Move_FIRST_CHILD), .val (.int (frm2 s_Move_FIRST_CHILD s_Move_CONVERSE_FIRST_CHILD s_Move_CONVERSE_NEXT_SIBLING s_Move_TO_DOCUMENT)), .unset, .unset, .unset] [])) _
      refine XS.aloadN X178.here hx rfl (hb hby at_18) rfl rfl ?_
      exact k
    obtain ⟨cq179, kq179, q179a, q179b, q179c⟩ := isOf hZ e178 P3
    obtain ⟨_, _, ⟨T179, L179, k179, n179⟩, -, X179, ⟨Lc179, hQ179, l179, y179, z179⟩, st179⟩ := X178.virtualBack hx (y := (⟨"com/example/decider/decider/library/xpath/Move", "modality", "()Lcom/example/decider/decider/logic/formula/Modality;"⟩ : MethodName)) (z := (⟨"com/example/decider/decider/library/xpath/Move", "modality", "()Lcom/example/decider/decider/logic/formula/Modality;"⟩ : MethodName)) hown (mvT hZ (hw _ (List.mem_of_getElem? (i := 19) rfl))) (mvT hZ (hw _ (List.mem_of_getElem? (i := 20) rfl))) (notFace_of_selects (args := #[]) (mvT hZ (hw _ (List.mem_of_getElem? (i := 22) rfl)))) (mvT hZ (hw _ (List.mem_of_getElem? (i := 22) rfl))) (mvT hZ (hw _ (List.mem_of_getElem? (i := 21) rfl))) (by decide) (backOf (W := 0) (rm3 l Z a0 hw [] s_Move_FIRST_CHILD s_Modality_FIRST_CHILD h0 n0 Z0 P5) hZ (hw _ (List.mem_of_getElem? (i := 23) rfl)) (hw _ (List.mem_of_getElem? (i := 6) rfl)) (by decide) (by decide)) q179a q179c (g := (mkF m 19 #[.val (.int p1), .val (.int (0 : Int32)), .val (.ref s_Move_FIRST_CHILD), .val (.int (frm2 s_Move_FIRST_CHILD s_Move_CONVERSE_FIRST_CHILD s_Move_CONVERSE_NEXT_SIBLING s_Move_TO_DOCUMENT)), .unset, .unset, .unset] [(.ref s_Move_FIRST_CHILD)])) rfl (by rw [hml]; rfl) (Steps.refl _) (argsL := []) (rest := []) (lenOf pd_7 rfl) rfl (by show 2 * 0 + _ ≤ _; exact Nat.le_of_eq rfl) (hb hby at_19) (fun _ _ => ⟨rfl, e178, (by decide : 0 + 0 ≤ _), (by decide : 0 + 0 ≤ _)⟩)
    dsimp only [Pt.U, Pt.locs, Pt.cells, Pt.slots] at X179 l179 y179 z179 st179 hQ179
    subst l179 y179 z179
    obtain ⟨rfl, Nq179, e179⟩ := hQ179
    have N179 := Fr.app N178 Nq179
    refine own_go (A := _) (B := T179.setTop (mkF m 22 #[.val (.int p1), .val (.int (0 : Int32)), .val (.ref s_Move_FIRST_CHILD), .val (.int (frm2 s_Move_FIRST_CHILD s_Move_CONVERSE_FIRST_CHILD s_Move_CONVERSE_NEXT_SIBLING s_Move_TO_DOCUMENT)), .unset, .unset, .unset] [(.ref s_Modality_FIRST_CHILD)])) (fun t k => st179.trans k) ?_
    refine own_go (A := T179.setTop (mkF m 22 #[.val (.int p1), .val (.int (0 : Int32)), .val (.ref s_Move_FIRST_CHILD), .val (.int (frm2 s_Move_FIRST_CHILD s_Move_CONVERSE_FIRST_CHILD s_Move_CONVERSE_NEXT_SIBLING s_Move_TO_DOCUMENT)), .unset, .unset, .unset] [(.ref s_Modality_FIRST_CHILD)])) (B := T179.setTop (mkF m 31 #[.val (.int p1), .val (.int (0 : Int32)), .val (.ref s_Move_FIRST_CHILD), .val (.int (frm2 s_Move_FIRST_CHILD s_Move_CONVERSE_FIRST_CHILD s_Move_CONVERSE_NEXT_SIBLING s_Move_TO_DOCUMENT)), .val (.ref s_Modality_FIRST_CHILD), .unset, .unset] [(.ref s_Modality_FIRST_CHILD)])) (fun t k => ?_) ?_
    · show Steps p.tables e below (T179.setTop (mkF m 22 #[.val (.int p1), .val (.int (0 : Int32)), .val (.ref s_Move_FIRST_CHILD), .val (.int (frm2 s_Move_FIRST_CHILD s_Move_CONVERSE_FIRST_CHILD s_Move_CONVERSE_NEXT_SIBLING s_Move_TO_DOCUMENT)), .unset, .unset, .unset] [(.ref s_Modality_FIRST_CHILD)])) _
      refine XS.astore X179.here hx rfl (hb hby at_22) rfl rfl (l' := #[.val (.int p1), .val (.int (0 : Int32)), .val (.ref s_Move_FIRST_CHILD), .val (.int (frm2 s_Move_FIRST_CHILD s_Move_CONVERSE_FIRST_CHILD s_Move_CONVERSE_NEXT_SIBLING s_Move_TO_DOCUMENT)), .val (.ref s_Modality_FIRST_CHILD), .unset, .unset]) rfl ?_
      show Steps p.tables e below (T179.setTop (mkF m 24 #[.val (.int p1), .val (.int (0 : Int32)), .val (.ref s_Move_FIRST_CHILD), .val (.int (frm2 s_Move_FIRST_CHILD s_Move_CONVERSE_FIRST_CHILD s_Move_CONVERSE_NEXT_SIBLING s_Move_TO_DOCUMENT)), .val (.ref s_Modality_FIRST_CHILD), .unset, .unset] [])) _
      refine XS.aload X179.here hx rfl (hb hby at_24) rfl rfl ?_
      show Steps p.tables e below (T179.setTop (mkF m 26 #[.val (.int p1), .val (.int (0 : Int32)), .val (.ref s_Move_FIRST_CHILD), .val (.int (frm2 s_Move_FIRST_CHILD s_Move_CONVERSE_FIRST_CHILD s_Move_CONVERSE_NEXT_SIBLING s_Move_TO_DOCUMENT)), .val (.ref s_Modality_FIRST_CHILD), .unset, .unset] [(.ref s_Modality_FIRST_CHILD)])) _
      refine XS.ifnullNo X179.here hx rfl (hb hby at_26) rfl ?_
      show Steps p.tables e below (T179.setTop (mkF m 29 #[.val (.int p1), .val (.int (0 : Int32)), .val (.ref s_Move_FIRST_CHILD), .val (.int (frm2 s_Move_FIRST_CHILD s_Move_CONVERSE_FIRST_CHILD s_Move_CONVERSE_NEXT_SIBLING s_Move_TO_DOCUMENT)), .val (.ref s_Modality_FIRST_CHILD), .unset, .unset] [])) _
      refine XS.aload X179.here hx rfl (hb hby at_29) rfl rfl ?_
      exact k
    obtain ⟨cq180, kq180, q180a, q180b, q180c⟩ := isOf hZ e179 P26
    obtain ⟨_, _, ⟨T180, L180, k180, n180⟩, -, X180, ⟨Lc180, hQ180, l180, y180, z180⟩, st180⟩ := X179.virtualBack hx (y := (⟨"com/example/decider/decider/logic/formula/Modality", "spelling", "()Ljava/lang/String;"⟩ : MethodName)) (z := (⟨"com/example/decider/decider/logic/formula/Modality", "spelling", "()Ljava/lang/String;"⟩ : MethodName)) hown (mvT hZ (hw _ (List.mem_of_getElem? (i := 28) rfl))) (mvT hZ (hw _ (List.mem_of_getElem? (i := 29) rfl))) (notFace_of_selects (args := #[]) (mvT hZ (hw _ (List.mem_of_getElem? (i := 31) rfl)))) (mvT hZ (hw _ (List.mem_of_getElem? (i := 31) rfl))) (mvT hZ (hw _ (List.mem_of_getElem? (i := 30) rfl))) (by decide) (backOf (W := 0) (rm4 l Z a0 hw [] s_Modality_FIRST_CHILD t0 h0 n0 Z0 P27) hZ (hw _ (List.mem_of_getElem? (i := 32) rfl)) (hw _ (List.mem_of_getElem? (i := 26) rfl)) (by decide) (by decide)) q180a q180c (g := (mkF m 31 #[.val (.int p1), .val (.int (0 : Int32)), .val (.ref s_Move_FIRST_CHILD), .val (.int (frm2 s_Move_FIRST_CHILD s_Move_CONVERSE_FIRST_CHILD s_Move_CONVERSE_NEXT_SIBLING s_Move_TO_DOCUMENT)), .val (.ref s_Modality_FIRST_CHILD), .unset, .unset] [(.ref s_Modality_FIRST_CHILD)])) rfl (by rw [hml]; rfl) (Steps.refl _) (argsL := []) (rest := []) (lenOf pd_8 rfl) rfl (by show 2 * 0 + _ ≤ _; exact Nat.le_of_eq rfl) (hb hby at_31) (fun _ _ => ⟨rfl, e179, (by decide : 0 + 0 ≤ _), (by decide : 0 + 0 ≤ _)⟩)
    dsimp only [Pt.U, Pt.locs, Pt.cells, Pt.slots] at X180 l180 y180 z180 st180 hQ180
    subst l180 y180 z180
    obtain ⟨rfl, Nq180, e180⟩ := hQ180
    have N180 := Fr.app N179 Nq180
    refine own_go (A := _) (B := T180.setTop (mkF m 34 #[.val (.int p1), .val (.int (0 : Int32)), .val (.ref s_Move_FIRST_CHILD), .val (.int (frm2 s_Move_FIRST_CHILD s_Move_CONVERSE_FIRST_CHILD s_Move_CONVERSE_NEXT_SIBLING s_Move_TO_DOCUMENT)), .val (.ref s_Modality_FIRST_CHILD), .unset, .unset] [(.ref t0)])) (fun t k => st180.trans k) ?_
    refine own_go (A := T180.setTop (mkF m 34 #[.val (.int p1), .val (.int (0 : Int32)), .val (.ref s_Move_FIRST_CHILD), .val (.int (frm2 s_Move_FIRST_CHILD s_Move_CONVERSE_FIRST_CHILD s_Move_CONVERSE_NEXT_SIBLING s_Move_TO_DOCUMENT)), .val (.ref s_Modality_FIRST_CHILD), .unset, .unset] [(.ref t0)])) (B := T180.setTop (mkF m 38 #[.val (.int p1), .val (.int (0 : Int32)), .val (.ref s_Move_FIRST_CHILD), .val (.int (frm2 s_Move_FIRST_CHILD s_Move_CONVERSE_FIRST_CHILD s_Move_CONVERSE_NEXT_SIBLING s_Move_TO_DOCUMENT)), .val (.ref s_Modality_FIRST_CHILD), .unset, .val (.ref t0)] [(.ref t0)])) (fun t k => ?_) ?_
    · show Steps p.tables e below (T180.setTop (mkF m 34 #[.val (.int p1), .val (.int (0 : Int32)), .val (.ref s_Move_FIRST_CHILD), .val (.int (frm2 s_Move_FIRST_CHILD s_Move_CONVERSE_FIRST_CHILD s_Move_CONVERSE_NEXT_SIBLING s_Move_TO_DOCUMENT)), .val (.ref s_Modality_FIRST_CHILD), .unset, .unset] [(.ref t0)])) _
      refine XS.astore X180.here hx rfl (hb hby at_34) rfl rfl (l' := #[.val (.int p1), .val (.int (0 : Int32)), .val (.ref s_Move_FIRST_CHILD), .val (.int (frm2 s_Move_FIRST_CHILD s_Move_CONVERSE_FIRST_CHILD s_Move_CONVERSE_NEXT_SIBLING s_Move_TO_DOCUMENT)), .val (.ref s_Modality_FIRST_CHILD), .unset, .val (.ref t0)]) rfl ?_
      show Steps p.tables e below (T180.setTop (mkF m 36 #[.val (.int p1), .val (.int (0 : Int32)), .val (.ref s_Move_FIRST_CHILD), .val (.int (frm2 s_Move_FIRST_CHILD s_Move_CONVERSE_FIRST_CHILD s_Move_CONVERSE_NEXT_SIBLING s_Move_TO_DOCUMENT)), .val (.ref s_Modality_FIRST_CHILD), .unset, .val (.ref t0)] [])) _
      refine XS.aload X180.here hx rfl (hb hby at_36) rfl rfl ?_
      exact k
    obtain ⟨cq181, kq181, q181a, q181b, q181c⟩ := isOf hZ e180 P28
    obtain ⟨_, _, ⟨T181, L181, k181, n181⟩, -, X181, ⟨Lc181, hQ181, l181, y181, z181⟩, st181⟩ := X180.virtualBack hx (y := (⟨"java/lang/String", "length", "()I"⟩ : MethodName)) (z := (⟨"java/lang/String", "length", "()I"⟩ : MethodName)) hown (mvT hZ (hw _ (List.mem_of_getElem? (i := 35) rfl))) (mvT hZ (hw _ (List.mem_of_getElem? (i := 36) rfl))) (notFace_of_selects (args := #[]) (mvT hZ (hw _ (List.mem_of_getElem? (i := 38) rfl)))) (mvT hZ (hw _ (List.mem_of_getElem? (i := 38) rfl))) (mvT hZ (hw _ (List.mem_of_getElem? (i := 37) rfl))) (by decide) (backOf (W := 0) (rm5_3 l Z a0 hw [] t0 cs (60 : Int32) (49 : Int32) (62 : Int32) v0 kk0 h0 n0 Z0 P28 P0 P30 P29 P31 hcs) hZ (hw _ (List.mem_of_getElem? (i := 40) rfl)) (hw _ (List.mem_of_getElem? (i := 39) rfl)) (by decide) (by decide)) q181a q181c (g := (mkF m 38 #[.val (.int p1), .val (.int (0 : Int32)), .val (.ref s_Move_FIRST_CHILD), .val (.int (frm2 s_Move_FIRST_CHILD s_Move_CONVERSE_FIRST_CHILD s_Move_CONVERSE_NEXT_SIBLING s_Move_TO_DOCUMENT)), .val (.ref s_Modality_FIRST_CHILD), .unset, .val (.ref t0)] [(.ref t0)])) rfl (by rw [hml]; rfl) (Steps.refl _) (argsL := []) (rest := []) (lenOf pd_0 rfl) rfl (by show 2 * 0 + _ ≤ _; exact Nat.le_of_eq rfl) (hb hby at_38) (fun _ _ => ⟨rfl, e180, (by decide : 0 + 0 ≤ _), (by decide : 0 + 0 ≤ _)⟩)
    dsimp only [Pt.U, Pt.locs, Pt.cells, Pt.slots] at X181 l181 y181 z181 st181 hQ181
    subst l181 y181 z181
    obtain ⟨rfl, Nq181, e181⟩ := hQ181
    have N181 := Fr.app N180 Nq181
    refine own_go (A := _) (B := T181.setTop (mkF m 41 #[.val (.int p1), .val (.int (0 : Int32)), .val (.ref s_Move_FIRST_CHILD), .val (.int (frm2 s_Move_FIRST_CHILD s_Move_CONVERSE_FIRST_CHILD s_Move_CONVERSE_NEXT_SIBLING s_Move_TO_DOCUMENT)), .val (.ref s_Modality_FIRST_CHILD), .unset, .val (.ref t0)] [(.int (3 : Int32))])) (fun t k => st181.trans k) ?_
    refine own_go (A := T181.setTop (mkF m 41 #[.val (.int p1), .val (.int (0 : Int32)), .val (.ref s_Move_FIRST_CHILD), .val (.int (frm2 s_Move_FIRST_CHILD s_Move_CONVERSE_FIRST_CHILD s_Move_CONVERSE_NEXT_SIBLING s_Move_TO_DOCUMENT)), .val (.ref s_Modality_FIRST_CHILD), .unset, .val (.ref t0)] [(.int (3 : Int32))])) (B := T181.setTop (mkF m 48 #[.val (.int p1), .val (.int (0 : Int32)), .val (.ref s_Move_FIRST_CHILD), .val (.int (frm2 s_Move_FIRST_CHILD s_Move_CONVERSE_FIRST_CHILD s_Move_CONVERSE_NEXT_SIBLING s_Move_TO_DOCUMENT)), .val (.ref s_Modality_FIRST_CHILD), .unset, .val (.ref t0)] [(.int (1 : Int32)), (.ref t0)])) (fun t k => ?_) ?_
    · show Steps p.tables e below (T181.setTop (mkF m 41 #[.val (.int p1), .val (.int (0 : Int32)), .val (.ref s_Move_FIRST_CHILD), .val (.int (frm2 s_Move_FIRST_CHILD s_Move_CONVERSE_FIRST_CHILD s_Move_CONVERSE_NEXT_SIBLING s_Move_TO_DOCUMENT)), .val (.ref s_Modality_FIRST_CHILD), .unset, .val (.ref t0)] [(.int (3 : Int32))])) _
      refine XS.iconst X181.here hx rfl (hb hby at_41) ?_
      show Steps p.tables e below (T181.setTop (mkF m 42 #[.val (.int p1), .val (.int (0 : Int32)), .val (.ref s_Move_FIRST_CHILD), .val (.int (frm2 s_Move_FIRST_CHILD s_Move_CONVERSE_FIRST_CHILD s_Move_CONVERSE_NEXT_SIBLING s_Move_TO_DOCUMENT)), .val (.ref s_Modality_FIRST_CHILD), .unset, .val (.ref t0)] [(.int (1 : Int32)), (.int (3 : Int32))])) _
      refine XS.icmpNo X181.here hx rfl (hb hby at_42) rfl (tlt (by decide : ((1 : Int32) < (3 : Int32)))).2.2.2 ?_
      show Steps p.tables e below (T181.setTop (mkF m 45 #[.val (.int p1), .val (.int (0 : Int32)), .val (.ref s_Move_FIRST_CHILD), .val (.int (frm2 s_Move_FIRST_CHILD s_Move_CONVERSE_FIRST_CHILD s_Move_CONVERSE_NEXT_SIBLING s_Move_TO_DOCUMENT)), .val (.ref s_Modality_FIRST_CHILD), .unset, .val (.ref t0)] [])) _
      refine XS.aload X181.here hx rfl (hb hby at_45) rfl rfl ?_
      show Steps p.tables e below (T181.setTop (mkF m 47 #[.val (.int p1), .val (.int (0 : Int32)), .val (.ref s_Move_FIRST_CHILD), .val (.int (frm2 s_Move_FIRST_CHILD s_Move_CONVERSE_FIRST_CHILD s_Move_CONVERSE_NEXT_SIBLING s_Move_TO_DOCUMENT)), .val (.ref s_Modality_FIRST_CHILD), .unset, .val (.ref t0)] [(.ref t0)])) _
      refine XS.iconst X181.here hx rfl (hb hby at_47) ?_
      exact k
    obtain ⟨cq183, kq183, q183a, q183b, q183c⟩ := isOf hZ e181 P28
    obtain ⟨_, _, ⟨T183, L183, k183, n183⟩, -, X183, ⟨Lc183, hQ183, l183, y183, z183⟩, st183⟩ := X181.virtualBack hx (y := (⟨"java/lang/String", "charAt", "(I)C"⟩ : MethodName)) (z := (⟨"java/lang/String", "charAt", "(I)C"⟩ : MethodName)) hown (mvT hZ (hw _ (List.mem_of_getElem? (i := 51) rfl))) (mvT hZ (hw _ (List.mem_of_getElem? (i := 52) rfl))) (notFace_of_selects (args := #[]) (mvT hZ (hw _ (List.mem_of_getElem? (i := 54) rfl)))) (mvT hZ (hw _ (List.mem_of_getElem? (i := 54) rfl))) (mvT hZ (hw _ (List.mem_of_getElem? (i := 53) rfl))) (by decide) (backOf (W := 0) (rm7_3N l Z a0 hw [] t0 cs (60 : Int32) (49 : Int32) (62 : Int32) v0 kk0 h0 n0 Z0 P28 P0 P1 P30 P29 P31 hcs) hZ (hw _ (List.mem_of_getElem? (i := 55) rfl)) (hw _ (List.mem_of_getElem? (i := 39) rfl)) (by decide) (by decide)) q183a q183c (g := (mkF m 48 #[.val (.int p1), .val (.int (0 : Int32)), .val (.ref s_Move_FIRST_CHILD), .val (.int (frm2 s_Move_FIRST_CHILD s_Move_CONVERSE_FIRST_CHILD s_Move_CONVERSE_NEXT_SIBLING s_Move_TO_DOCUMENT)), .val (.ref s_Modality_FIRST_CHILD), .unset, .val (.ref t0)] [(.int (1 : Int32)), (.ref t0)])) rfl (by rw [hml]; rfl) (Steps.refl _) (argsL := [(.int (1 : Int32))]) (rest := []) (lenOf pd_9 rfl) rfl (by show 2 * 0 + _ ≤ _; exact Nat.le_of_eq rfl) (hb hby at_48) (fun _ _ => ⟨rfl, e181, (by decide : 0 + 0 ≤ _), (by decide : 0 + 0 ≤ _)⟩)
    dsimp only [Pt.U, Pt.locs, Pt.cells, Pt.slots] at X183 l183 y183 z183 st183 hQ183
    subst l183 y183 z183
    obtain ⟨rfl, Nq183, e183⟩ := hQ183
    have N183 := Fr.app N181 Nq183
    refine own_go (A := _) (B := T183.setTop (mkF m 51 #[.val (.int p1), .val (.int (0 : Int32)), .val (.ref s_Move_FIRST_CHILD), .val (.int (frm2 s_Move_FIRST_CHILD s_Move_CONVERSE_FIRST_CHILD s_Move_CONVERSE_NEXT_SIBLING s_Move_TO_DOCUMENT)), .val (.ref s_Modality_FIRST_CHILD), .unset, .val (.ref t0)] [(.int (nar .char (nar .char (((49 : Int32) &&& (255 : Int32)).toUInt32.toUInt16.toUInt32.toInt32))))])) (fun t k => st183.trans k) ?_
    refine own_go (A := T183.setTop (mkF m 51 #[.val (.int p1), .val (.int (0 : Int32)), .val (.ref s_Move_FIRST_CHILD), .val (.int (frm2 s_Move_FIRST_CHILD s_Move_CONVERSE_FIRST_CHILD s_Move_CONVERSE_NEXT_SIBLING s_Move_TO_DOCUMENT)), .val (.ref s_Modality_FIRST_CHILD), .unset, .val (.ref t0)] [(.int (nar .char (nar .char (((49 : Int32) &&& (255 : Int32)).toUInt32.toUInt16.toUInt32.toInt32))))])) (B := T183.setTop (mkF m 53 #[.val (.int p1), .val (.int (0 : Int32)), .val (.ref s_Move_FIRST_CHILD), .val (.int (frm2 s_Move_FIRST_CHILD s_Move_CONVERSE_FIRST_CHILD s_Move_CONVERSE_NEXT_SIBLING s_Move_TO_DOCUMENT)), .val (.ref s_Modality_FIRST_CHILD), .unset, .val (.ref t0)] [(.int (45 : Int32)), (.int (nar .char (nar .char (((49 : Int32) &&& (255 : Int32)).toUInt32.toUInt16.toUInt32.toInt32))))])) (fun t k => ?_) ?_
    · show Steps p.tables e below (T183.setTop (mkF m 51 #[.val (.int p1), .val (.int (0 : Int32)), .val (.ref s_Move_FIRST_CHILD), .val (.int (frm2 s_Move_FIRST_CHILD s_Move_CONVERSE_FIRST_CHILD s_Move_CONVERSE_NEXT_SIBLING s_Move_TO_DOCUMENT)), .val (.ref s_Modality_FIRST_CHILD), .unset, .val (.ref t0)] [(.int (nar .char (nar .char (((49 : Int32) &&& (255 : Int32)).toUInt32.toUInt16.toUInt32.toInt32))))])) _
      refine XS.bipush X183.here hx rfl (hb hby at_51) ?_
      exact k
    have hc53_184 : ¬ ((nar .char (nar .char (((49 : Int32) &&& (255 : Int32)).toUInt32.toUInt16.toUInt32.toInt32))) = (45 : Int32)) := by decide
    refine own_go (A := T183.setTop (mkF m 53 #[.val (.int p1), .val (.int (0 : Int32)), .val (.ref s_Move_FIRST_CHILD), .val (.int (frm2 s_Move_FIRST_CHILD s_Move_CONVERSE_FIRST_CHILD s_Move_CONVERSE_NEXT_SIBLING s_Move_TO_DOCUMENT)), .val (.ref s_Modality_FIRST_CHILD), .unset, .val (.ref t0)] [(.int (45 : Int32)), (.int (nar .char (nar .char (((49 : Int32) &&& (255 : Int32)).toUInt32.toUInt16.toUInt32.toInt32))))])) (B := T183.setTop (mkF m 81 #[.val (.int p1), .val (.int (0 : Int32)), .val (.ref s_Move_FIRST_CHILD), .val (.int (frm2 s_Move_FIRST_CHILD s_Move_CONVERSE_FIRST_CHILD s_Move_CONVERSE_NEXT_SIBLING s_Move_TO_DOCUMENT)), .val (.ref s_Modality_FIRST_CHILD), .val (.int (0 : Int32)), .val (.ref t0)] [(.ref s_Move_FIRST_CHILD)])) (fun t k => ?_) ?_
    · show Steps p.tables e below (T183.setTop (mkF m 53 #[.val (.int p1), .val (.int (0 : Int32)), .val (.ref s_Move_FIRST_CHILD), .val (.int (frm2 s_Move_FIRST_CHILD s_Move_CONVERSE_FIRST_CHILD s_Move_CONVERSE_NEXT_SIBLING s_Move_TO_DOCUMENT)), .val (.ref s_Modality_FIRST_CHILD), .unset, .val (.ref t0)] [(.int (45 : Int32)), (.int (nar .char (nar .char (((49 : Int32) &&& (255 : Int32)).toUInt32.toUInt16.toUInt32.toInt32))))])) _
      refine XS.icmpYes X183.here hx rfl (pc0 := 53) (pc' := 60) rfl (hb hby at_53) rfl (feq hc53_184).2 (by decide) (by decide) ?_
      show Steps p.tables e below (T183.setTop (mkF m 60 #[.val (.int p1), .val (.int (0 : Int32)), .val (.ref s_Move_FIRST_CHILD), .val (.int (frm2 s_Move_FIRST_CHILD s_Move_CONVERSE_FIRST_CHILD s_Move_CONVERSE_NEXT_SIBLING s_Move_TO_DOCUMENT)), .val (.ref s_Modality_FIRST_CHILD), .unset, .val (.ref t0)] [])) _
      refine XS.iconst X183.here hx rfl (hb hby at_60) ?_
      show Steps p.tables e below (T183.setTop (mkF m 61 #[.val (.int p1), .val (.int (0 : Int32)), .val (.ref s_Move_FIRST_CHILD), .val (.int (frm2 s_Move_FIRST_CHILD s_Move_CONVERSE_FIRST_CHILD s_Move_CONVERSE_NEXT_SIBLING s_Move_TO_DOCUMENT)), .val (.ref s_Modality_FIRST_CHILD), .unset, .val (.ref t0)] [(.int (0 : Int32))])) _
      refine XS.istore X183.here hx rfl (hb hby at_61) rfl (l' := #[.val (.int p1), .val (.int (0 : Int32)), .val (.ref s_Move_FIRST_CHILD), .val (.int (frm2 s_Move_FIRST_CHILD s_Move_CONVERSE_FIRST_CHILD s_Move_CONVERSE_NEXT_SIBLING s_Move_TO_DOCUMENT)), .val (.ref s_Modality_FIRST_CHILD), .val (.int (0 : Int32)), .val (.ref t0)]) rfl ?_
      show Steps p.tables e below (T183.setTop (mkF m 63 #[.val (.int p1), .val (.int (0 : Int32)), .val (.ref s_Move_FIRST_CHILD), .val (.int (frm2 s_Move_FIRST_CHILD s_Move_CONVERSE_FIRST_CHILD s_Move_CONVERSE_NEXT_SIBLING s_Move_TO_DOCUMENT)), .val (.ref s_Modality_FIRST_CHILD), .val (.int (0 : Int32)), .val (.ref t0)] [])) _
      refine XS.goto X183.here hx rfl (pc0 := 63) (pc' := 80) rfl (hb hby at_63) (by decide) (by decide) ?_
      show Steps p.tables e below (T183.setTop (mkF m 80 #[.val (.int p1), .val (.int (0 : Int32)), .val (.ref s_Move_FIRST_CHILD), .val (.int (frm2 s_Move_FIRST_CHILD s_Move_CONVERSE_FIRST_CHILD s_Move_CONVERSE_NEXT_SIBLING s_Move_TO_DOCUMENT)), .val (.ref s_Modality_FIRST_CHILD), .val (.int (0 : Int32)), .val (.ref t0)] [])) _
      refine XS.aloadN X183.here hx rfl (hb hby at_80) rfl rfl ?_
      exact k
    obtain ⟨cq185, kq185, q185a, q185b, q185c⟩ := isOf hZ e183 P3
    obtain ⟨_, _, ⟨T185, L185, k185, n185⟩, -, X185, ⟨Lc185, hQ185, l185, y185, z185⟩, st185⟩ := X183.virtualBack hx (y := (⟨"com/example/decider/decider/library/xpath/Move", "inverse", "()Lcom/example/decider/decider/library/xpath/Move;"⟩ : MethodName)) (z := (⟨"com/example/decider/decider/library/xpath/Move", "inverse", "()Lcom/example/decider/decider/library/xpath/Move;"⟩ : MethodName)) hown (mvT hZ (hw _ (List.mem_of_getElem? (i := 73) rfl))) (mvT hZ (hw _ (List.mem_of_getElem? (i := 74) rfl))) (notFace_of_selects (args := #[]) (mvT hZ (hw _ (List.mem_of_getElem? (i := 76) rfl)))) (mvT hZ (hw _ (List.mem_of_getElem? (i := 76) rfl))) (mvT hZ (hw _ (List.mem_of_getElem? (i := 75) rfl))) (by decide) (backOf (W := 0) (rm12_0 l Z a0 hw [] s_Move_FIRST_CHILD s_Move_CONVERSE_FIRST_CHILD h0 n0 Z0 P3 P10 P4) hZ (hw _ (List.mem_of_getElem? (i := 77) rfl)) (hw _ (List.mem_of_getElem? (i := 6) rfl)) (by decide) (by decide)) q185a q185c (g := (mkF m 81 #[.val (.int p1), .val (.int (0 : Int32)), .val (.ref s_Move_FIRST_CHILD), .val (.int (frm2 s_Move_FIRST_CHILD s_Move_CONVERSE_FIRST_CHILD s_Move_CONVERSE_NEXT_SIBLING s_Move_TO_DOCUMENT)), .val (.ref s_Modality_FIRST_CHILD), .val (.int (0 : Int32)), .val (.ref t0)] [(.ref s_Move_FIRST_CHILD)])) rfl (by rw [hml]; rfl) (Steps.refl _) (argsL := []) (rest := []) (lenOf pd_10 rfl) rfl (by show 2 * 0 + _ ≤ _; exact Nat.le_of_eq rfl) (hb hby at_81) (fun _ _ => ⟨rfl, e183, (by decide : 0 + 0 ≤ _), (by decide : 0 + 0 ≤ _)⟩)
    dsimp only [Pt.U, Pt.locs, Pt.cells, Pt.slots] at X185 l185 y185 z185 st185 hQ185
    subst l185 y185 z185
    obtain ⟨rfl, Nq185, e185⟩ := hQ185
    have N185 := Fr.app N183 Nq185
    refine own_go (A := _) (B := T185.setTop (mkF m 84 #[.val (.int p1), .val (.int (0 : Int32)), .val (.ref s_Move_FIRST_CHILD), .val (.int (frm2 s_Move_FIRST_CHILD s_Move_CONVERSE_FIRST_CHILD s_Move_CONVERSE_NEXT_SIBLING s_Move_TO_DOCUMENT)), .val (.ref s_Modality_FIRST_CHILD), .val (.int (0 : Int32)), .val (.ref t0)] [(.ref s_Move_CONVERSE_FIRST_CHILD)])) (fun t k => st185.trans k) ?_
    obtain ⟨cq186, kq186, q186a, q186b, q186c⟩ := isOf hZ e185 P11
    obtain ⟨_, _, ⟨T186, L186, k186, n186⟩, -, X186, ⟨Lc186, hQ186, l186, y186, z186⟩, st186⟩ := X185.virtualBack hx (y := (⟨"com/example/decider/decider/library/xpath/Move", "upward", "()Z"⟩ : MethodName)) (z := (⟨"com/example/decider/decider/library/xpath/Move", "upward", "()Z"⟩ : MethodName)) hown (mvT hZ (hw _ (List.mem_of_getElem? (i := 8) rfl))) (mvT hZ (hw _ (List.mem_of_getElem? (i := 9) rfl))) (notFace_of_selects (args := #[]) (mvT hZ (hw _ (List.mem_of_getElem? (i := 11) rfl)))) (mvT hZ (hw _ (List.mem_of_getElem? (i := 11) rfl))) (mvT hZ (hw _ (List.mem_of_getElem? (i := 10) rfl))) (by decide) (backOf (W := 0) (rm2 l Z a0 hw [] s_Move_CONVERSE_FIRST_CHILD s_Move_CONVERSE_FIRST_CHILD s_Move_CONVERSE_NEXT_SIBLING s_Move_TO_DOCUMENT h0 n0 Z0 P10 P14 P18) hZ (hw _ (List.mem_of_getElem? (i := 12) rfl)) (hw _ (List.mem_of_getElem? (i := 6) rfl)) (by decide) (by decide)) q186a q186c (g := (mkF m 84 #[.val (.int p1), .val (.int (0 : Int32)), .val (.ref s_Move_FIRST_CHILD), .val (.int (frm2 s_Move_FIRST_CHILD s_Move_CONVERSE_FIRST_CHILD s_Move_CONVERSE_NEXT_SIBLING s_Move_TO_DOCUMENT)), .val (.ref s_Modality_FIRST_CHILD), .val (.int (0 : Int32)), .val (.ref t0)] [(.ref s_Move_CONVERSE_FIRST_CHILD)])) rfl (by rw [hml]; rfl) (Steps.refl _) (argsL := []) (rest := []) (lenOf pd_4 rfl) rfl (by show 2 * 0 + _ ≤ _; exact Nat.le_of_eq rfl) (hb hby at_84) (fun _ _ => ⟨rfl, e185, (by decide : 0 + 0 ≤ _), (by decide : 0 + 0 ≤ _)⟩)
    dsimp only [Pt.U, Pt.locs, Pt.cells, Pt.slots] at X186 l186 y186 z186 st186 hQ186
    subst l186 y186 z186
    obtain ⟨rfl, Nq186, e186⟩ := hQ186
    have N186 := Fr.app N185 Nq186
    refine own_go (A := _) (B := T186.setTop (mkF m 87 #[.val (.int p1), .val (.int (0 : Int32)), .val (.ref s_Move_FIRST_CHILD), .val (.int (frm2 s_Move_FIRST_CHILD s_Move_CONVERSE_FIRST_CHILD s_Move_CONVERSE_NEXT_SIBLING s_Move_TO_DOCUMENT)), .val (.ref s_Modality_FIRST_CHILD), .val (.int (0 : Int32)), .val (.ref t0)] [(.int (frm2 s_Move_CONVERSE_FIRST_CHILD s_Move_CONVERSE_FIRST_CHILD s_Move_CONVERSE_NEXT_SIBLING s_Move_TO_DOCUMENT))])) (fun t k => st186.trans k) ?_
    refine own_go (A := T186.setTop (mkF m 87 #[.val (.int p1), .val (.int (0 : Int32)), .val (.ref s_Move_FIRST_CHILD), .val (.int (frm2 s_Move_FIRST_CHILD s_Move_CONVERSE_FIRST_CHILD s_Move_CONVERSE_NEXT_SIBLING s_Move_TO_DOCUMENT)), .val (.ref s_Modality_FIRST_CHILD), .val (.int (0 : Int32)), .val (.ref t0)] [(.int (frm2 s_Move_CONVERSE_FIRST_CHILD s_Move_CONVERSE_FIRST_CHILD s_Move_CONVERSE_NEXT_SIBLING s_Move_TO_DOCUMENT))])) (B := T186.setTop (mkF m 92 #[.val (.int p1), .val (.int (0 : Int32)), .val (.ref s_Move_FIRST_CHILD), .val (.int (frm2 s_Move_FIRST_CHILD s_Move_CONVERSE_FIRST_CHILD s_Move_CONVERSE_NEXT_SIBLING s_Move_TO_DOCUMENT)), .val (.ref s_Modality_FIRST_CHILD), .val (.int (0 : Int32)), .val (.int (frm2 s_Move_CONVERSE_FIRST_CHILD s_Move_CONVERSE_FIRST_CHILD s_Move_CONVERSE_NEXT_SIBLING s_Move_TO_DOCUMENT))] [(.int (0 : Int32)), (.int (frm2 s_Move_FIRST_CHILD s_Move_CONVERSE_FIRST_CHILD s_Move_CONVERSE_NEXT_SIBLING s_Move_TO_DOCUMENT))])) (fun t k => ?_) ?_
    · show Steps p.tables e below (T186.setTop (mkF m 87 #[.val (.int p1), .val (.int (0 : Int32)), .val (.ref s_Move_FIRST_CHILD), .val (.int (frm2 s_Move_FIRST_CHILD s_Move_CONVERSE_FIRST_CHILD s_Move_CONVERSE_NEXT_SIBLING s_Move_TO_DOCUMENT)), .val (.ref s_Modality_FIRST_CHILD), .val (.int (0 : Int32)), .val (.ref t0)] [(.int (frm2 s_Move_CONVERSE_FIRST_CHILD s_Move_CONVERSE_FIRST_CHILD s_Move_CONVERSE_NEXT_SIBLING s_Move_TO_DOCUMENT))])) _
      refine XS.istore X186.here hx rfl (hb hby at_87) rfl (l' := #[.val (.int p1), .val (.int (0 : Int32)), .val (.ref s_Move_FIRST_CHILD), .val (.int (frm2 s_Move_FIRST_CHILD s_Move_CONVERSE_FIRST_CHILD s_Move_CONVERSE_NEXT_SIBLING s_Move_TO_DOCUMENT)), .val (.ref s_Modality_FIRST_CHILD), .val (.int (0 : Int32)), .val (.int (frm2 s_Move_CONVERSE_FIRST_CHILD s_Move_CONVERSE_FIRST_CHILD s_Move_CONVERSE_NEXT_SIBLING s_Move_TO_DOCUMENT))]) rfl ?_
      show Steps p.tables e below (T186.setTop (mkF m 89 #[.val (.int p1), .val (.int (0 : Int32)), .val (.ref s_Move_FIRST_CHILD), .val (.int (frm2 s_Move_FIRST_CHILD s_Move_CONVERSE_FIRST_CHILD s_Move_CONVERSE_NEXT_SIBLING s_Move_TO_DOCUMENT)), .val (.ref s_Modality_FIRST_CHILD), .val (.int (0 : Int32)), .val (.int (frm2 s_Move_CONVERSE_FIRST_CHILD s_Move_CONVERSE_FIRST_CHILD s_Move_CONVERSE_NEXT_SIBLING s_Move_TO_DOCUMENT))] [])) _
      refine XS.iloadN X186.here hx rfl (hb hby at_89) rfl ?_
      show Steps p.tables e below (T186.setTop (mkF m 90 #[.val (.int p1), .val (.int (0 : Int32)), .val (.ref s_Move_FIRST_CHILD), .val (.int (frm2 s_Move_FIRST_CHILD s_Move_CONVERSE_FIRST_CHILD s_Move_CONVERSE_NEXT_SIBLING s_Move_TO_DOCUMENT)), .val (.ref s_Modality_FIRST_CHILD), .val (.int (0 : Int32)), .val (.int (frm2 s_Move_CONVERSE_FIRST_CHILD s_Move_CONVERSE_FIRST_CHILD s_Move_CONVERSE_NEXT_SIBLING s_Move_TO_DOCUMENT))] [(.int (frm2 s_Move_FIRST_CHILD s_Move_CONVERSE_FIRST_CHILD s_Move_CONVERSE_NEXT_SIBLING s_Move_TO_DOCUMENT))])) _
      refine XS.iload X186.here hx rfl (hb hby at_90) rfl ?_
      exact k
    have hc92_187 : ((frm2 s_Move_FIRST_CHILD s_Move_CONVERSE_FIRST_CHILD s_Move_CONVERSE_NEXT_SIBLING s_Move_TO_DOCUMENT) = (0 : Int32)) := by simp [frm2, ne_s_Move_FIRST_CHILD_s_Move_CONVERSE_FIRST_CHILD, ne_s_Move_FIRST_CHILD_s_Move_CONVERSE_NEXT_SIBLING, ne_s_Move_FIRST_CHILD_s_Move_TO_DOCUMENT]
    refine own_go (A := T186.setTop (mkF m 92 #[.val (.int p1), .val (.int (0 : Int32)), .val (.ref s_Move_FIRST_CHILD), .val (.int (frm2 s_Move_FIRST_CHILD s_Move_CONVERSE_FIRST_CHILD s_Move_CONVERSE_NEXT_SIBLING s_Move_TO_DOCUMENT)), .val (.ref s_Modality_FIRST_CHILD), .val (.int (0 : Int32)), .val (.int (frm2 s_Move_CONVERSE_FIRST_CHILD s_Move_CONVERSE_FIRST_CHILD s_Move_CONVERSE_NEXT_SIBLING s_Move_TO_DOCUMENT))] [(.int (0 : Int32)), (.int (frm2 s_Move_FIRST_CHILD s_Move_CONVERSE_FIRST_CHILD s_Move_CONVERSE_NEXT_SIBLING s_Move_TO_DOCUMENT))])) (B := T186.setTop (mkF m 98 #[.val (.int p1), .val (.int (0 : Int32)), .val (.ref s_Move_FIRST_CHILD), .val (.int (frm2 s_Move_FIRST_CHILD s_Move_CONVERSE_FIRST_CHILD s_Move_CONVERSE_NEXT_SIBLING s_Move_TO_DOCUMENT)), .val (.ref s_Modality_FIRST_CHILD), .val (.int (0 : Int32)), .val (.int (frm2 s_Move_CONVERSE_FIRST_CHILD s_Move_CONVERSE_FIRST_CHILD s_Move_CONVERSE_NEXT_SIBLING s_Move_TO_DOCUMENT))] [(.int (frm2 s_Move_CONVERSE_FIRST_CHILD s_Move_CONVERSE_FIRST_CHILD s_Move_CONVERSE_NEXT_SIBLING s_Move_TO_DOCUMENT)), (.int (frm2 s_Move_FIRST_CHILD s_Move_CONVERSE_FIRST_CHILD s_Move_CONVERSE_NEXT_SIBLING s_Move_TO_DOCUMENT))])) (fun t k => ?_) ?_
    · show Steps p.tables e below (T186.setTop (mkF m 92 #[.val (.int p1), .val (.int (0 : Int32)), .val (.ref s_Move_FIRST_CHILD), .val (.int (frm2 s_Move_FIRST_CHILD s_Move_CONVERSE_FIRST_CHILD s_Move_CONVERSE_NEXT_SIBLING s_Move_TO_DOCUMENT)), .val (.ref s_Modality_FIRST_CHILD), .val (.int (0 : Int32)), .val (.int (frm2 s_Move_CONVERSE_FIRST_CHILD s_Move_CONVERSE_FIRST_CHILD s_Move_CONVERSE_NEXT_SIBLING s_Move_TO_DOCUMENT))] [(.int (0 : Int32)), (.int (frm2 s_Move_FIRST_CHILD s_Move_CONVERSE_FIRST_CHILD s_Move_CONVERSE_NEXT_SIBLING s_Move_TO_DOCUMENT))])) _
      refine XS.icmpNo X186.here hx rfl (hb hby at_92) rfl (teq hc92_187).2 ?_
      show Steps p.tables e below (T186.setTop (mkF m 95 #[.val (.int p1), .val (.int (0 : Int32)), .val (.ref s_Move_FIRST_CHILD), .val (.int (frm2 s_Move_FIRST_CHILD s_Move_CONVERSE_FIRST_CHILD s_Move_CONVERSE_NEXT_SIBLING s_Move_TO_DOCUMENT)), .val (.ref s_Modality_FIRST_CHILD), .val (.int (0 : Int32)), .val (.int (frm2 s_Move_CONVERSE_FIRST_CHILD s_Move_CONVERSE_FIRST_CHILD s_Move_CONVERSE_NEXT_SIBLING s_Move_TO_DOCUMENT))] [])) _
      refine XS.iloadN X186.here hx rfl (hb hby at_95) rfl ?_
      show Steps p.tables e below (T186.setTop (mkF m 96 #[.val (.int p1), .val (.int (0 : Int32)), .val (.ref s_Move_FIRST_CHILD), .val (.int (frm2 s_Move_FIRST_CHILD s_Move_CONVERSE_FIRST_CHILD s_Move_CONVERSE_NEXT_SIBLING s_Move_TO_DOCUMENT)), .val (.ref s_Modality_FIRST_CHILD), .val (.int (0 : Int32)), .val (.int (frm2 s_Move_CONVERSE_FIRST_CHILD s_Move_CONVERSE_FIRST_CHILD s_Move_CONVERSE_NEXT_SIBLING s_Move_TO_DOCUMENT))] [(.int (frm2 s_Move_FIRST_CHILD s_Move_CONVERSE_FIRST_CHILD s_Move_CONVERSE_NEXT_SIBLING s_Move_TO_DOCUMENT))])) _
      refine XS.iload X186.here hx rfl (hb hby at_96) rfl ?_
      exact k
    have hc98_188 : ¬ ((frm2 s_Move_FIRST_CHILD s_Move_CONVERSE_FIRST_CHILD s_Move_CONVERSE_NEXT_SIBLING s_Move_TO_DOCUMENT) = (frm2 s_Move_CONVERSE_FIRST_CHILD s_Move_CONVERSE_FIRST_CHILD s_Move_CONVERSE_NEXT_SIBLING s_Move_TO_DOCUMENT)) := by simp [frm2, ne_s_Move_FIRST_CHILD_s_Move_CONVERSE_FIRST_CHILD, ne_s_Move_FIRST_CHILD_s_Move_CONVERSE_NEXT_SIBLING, ne_s_Move_FIRST_CHILD_s_Move_TO_DOCUMENT]
    refine own_go (A := T186.setTop (mkF m 98 #[.val (.int p1), .val (.int (0 : Int32)), .val (.ref s_Move_FIRST_CHILD), .val (.int (frm2 s_Move_FIRST_CHILD s_Move_CONVERSE_FIRST_CHILD s_Move_CONVERSE_NEXT_SIBLING s_Move_TO_DOCUMENT)), .val (.ref s_Modality_FIRST_CHILD), .val (.int (0 : Int32)), .val (.int (frm2 s_Move_CONVERSE_FIRST_CHILD s_Move_CONVERSE_FIRST_CHILD s_Move_CONVERSE_NEXT_SIBLING s_Move_TO_DOCUMENT))] [(.int (frm2 s_Move_CONVERSE_FIRST_CHILD s_Move_CONVERSE_FIRST_CHILD s_Move_CONVERSE_NEXT_SIBLING s_Move_TO_DOCUMENT)), (.int (frm2 s_Move_FIRST_CHILD s_Move_CONVERSE_FIRST_CHILD s_Move_CONVERSE_NEXT_SIBLING s_Move_TO_DOCUMENT))])) (B := T186.setTop (mkF m 106 #[.val (.int p1), .val (.int (0 : Int32)), .val (.ref s_Move_FIRST_CHILD), .val (.int (frm2 s_Move_FIRST_CHILD s_Move_CONVERSE_FIRST_CHILD s_Move_CONVERSE_NEXT_SIBLING s_Move_TO_DOCUMENT)), .val (.ref s_Modality_FIRST_CHILD), .val (.int (0 : Int32)), .val (.int (frm2 s_Move_CONVERSE_FIRST_CHILD s_Move_CONVERSE_FIRST_CHILD s_Move_CONVERSE_NEXT_SIBLING s_Move_TO_DOCUMENT))] [(.int (1 : Int32))])) (fun t k => ?_) ?_
    · show Steps p.tables e below (T186.setTop (mkF m 98 #[.val (.int p1), .val (.int (0 : Int32)), .val (.ref s_Move_FIRST_CHILD), .val (.int (frm2 s_Move_FIRST_CHILD s_Move_CONVERSE_FIRST_CHILD s_Move_CONVERSE_NEXT_SIBLING s_Move_TO_DOCUMENT)), .val (.ref s_Modality_FIRST_CHILD), .val (.int (0 : Int32)), .val (.int (frm2 s_Move_CONVERSE_FIRST_CHILD s_Move_CONVERSE_FIRST_CHILD s_Move_CONVERSE_NEXT_SIBLING s_Move_TO_DOCUMENT))] [(.int (frm2 s_Move_CONVERSE_FIRST_CHILD s_Move_CONVERSE_FIRST_CHILD s_Move_CONVERSE_NEXT_SIBLING s_Move_TO_DOCUMENT)), (.int (frm2 s_Move_FIRST_CHILD s_Move_CONVERSE_FIRST_CHILD s_Move_CONVERSE_NEXT_SIBLING s_Move_TO_DOCUMENT))])) _
      refine XS.icmpNo X186.here hx rfl (hb hby at_98) rfl (feq hc98_188).1 ?_
      show Steps p.tables e below (T186.setTop (mkF m 101 #[.val (.int p1), .val (.int (0 : Int32)), .val (.ref s_Move_FIRST_CHILD), .val (.int (frm2 s_Move_FIRST_CHILD s_Move_CONVERSE_FIRST_CHILD s_Move_CONVERSE_NEXT_SIBLING s_Move_TO_DOCUMENT)), .val (.ref s_Modality_FIRST_CHILD), .val (.int (0 : Int32)), .val (.int (frm2 s_Move_CONVERSE_FIRST_CHILD s_Move_CONVERSE_FIRST_CHILD s_Move_CONVERSE_NEXT_SIBLING s_Move_TO_DOCUMENT))] [])) _
      refine XS.iconst X186.here hx rfl (hb hby at_101) ?_
      show Steps p.tables e below (T186.setTop (mkF m 102 #[.val (.int p1), .val (.int (0 : Int32)), .val (.ref s_Move_FIRST_CHILD), .val (.int (frm2 s_Move_FIRST_CHILD s_Move_CONVERSE_FIRST_CHILD s_Move_CONVERSE_NEXT_SIBLING s_Move_TO_DOCUMENT)), .val (.ref s_Modality_FIRST_CHILD), .val (.int (0 : Int32)), .val (.int (frm2 s_Move_CONVERSE_FIRST_CHILD s_Move_CONVERSE_FIRST_CHILD s_Move_CONVERSE_NEXT_SIBLING s_Move_TO_DOCUMENT))] [(.int (1 : Int32))])) _
      refine XS.goto X186.here hx rfl (pc0 := 102) (pc' := 106) rfl (hb hby at_102) (by decide) (by decide) ?_
      exact k
    obtain ⟨fs, hr, hrun, hended, hW, hsame⟩ := X186.leave (v := some (.int (1 : Int32))) (fun h => by rw [Bd.returns] at h; cases h)
    refine ⟨_, _, ?_, hrun, hended, _, _, rfl, ?_, ⟨_, rfl⟩, hW, hsame.mono (by decide) (by decide)⟩
    · show Steps p.tables e below (T186.setTop (mkF m 106 #[.val (.int p1), .val (.int (0 : Int32)), .val (.ref s_Move_FIRST_CHILD), .val (.int (frm2 s_Move_FIRST_CHILD s_Move_CONVERSE_FIRST_CHILD s_Move_CONVERSE_NEXT_SIBLING s_Move_TO_DOCUMENT)), .val (.ref s_Modality_FIRST_CHILD), .val (.int (0 : Int32)), .val (.int (frm2 s_Move_CONVERSE_FIRST_CHILD s_Move_CONVERSE_FIRST_CHILD s_Move_CONVERSE_NEXT_SIBLING s_Move_TO_DOCUMENT))] [(.int (1 : Int32))])) _
      exact retN X186 hx (t := .boolean) Bd.returns (by simp) (hb hby at_106) hr
    · show Qrm0N Z p1 cs s_Move_FIRST_CHILD s_Move_NEXT_SIBLING s_Move_CONVERSE_FIRST_CHILD s_Move_CONVERSE_NEXT_SIBLING s_Move_TO_DOCUMENT s_Move_FROM_DOCUMENT s_Modality_FIRST_CHILD t0 v0 kk0 s_Modality_NEXT_SIBLING t1 v1 kk1 s_Modality_CONVERSE_FIRST_CHILD t2 v2 kk2 s_Modality_CONVERSE_NEXT_SIBLING t3 v3 kk3 h0 n0 _ T186.heap _
      rw [e186]
      exact ⟨rfl, N186⟩
  · rw [hk176]
    refine own_go (A := s₁.setTop (mkF m 7 #[.val (.int p1), .unset, .unset, .unset, .unset, .unset, .unset] [(.int (1 : Int32))])) (B := s₁.setTop (mkF m 9 #[.val (.int p1), .val (.int (1 : Int32)), .unset, .unset, .unset, .unset, .unset] [(.int (1 : Int32))])) (fun t k => ?_) ?_
    · show Steps p.tables e below (s₁.setTop (mkF m 7 #[.val (.int p1), .unset, .unset, .unset, .unset, .unset, .unset] [(.int (1 : Int32))])) _
      refine XS.istoreN X0.here hx rfl (hb hby at_7) rfl (l' := #[.val (.int p1), .val (.int (1 : Int32)), .unset, .unset, .unset, .unset, .unset]) rfl ?_
      show Steps p.tables e below (s₁.setTop (mkF m 8 #[.val (.int p1), .val (.int (1 : Int32)), .unset, .unset, .unset, .unset, .unset] [])) _
      refine XS.iloadN X0.here hx rfl (hb hby at_8) rfl ?_
      exact k
    obtain ⟨_, _, ⟨T189, L189, k189, n189⟩, -, X189, ⟨Lc189, hQ189, l189, y189, z189⟩, st189⟩ := Jvm.LawKit.callS X0 hx (y := (⟨"com/example/decider/decider/library/xpath/MoveUpwardPinLaw", "pick", "(I)Lcom/example/decider/decider/library/xpath/Move;"⟩ : MethodName)) hown (mvT hZ (hw _ (List.mem_of_getElem? (i := 1) rfl))) (mvT hZ (hw _ (List.mem_of_getElem? (i := 2) rfl))) (mvT hZ (hw _ (List.mem_of_getElem? (i := 3) rfl))) (mvT hZ (hw _ (List.mem_of_getElem? (i := 4) rfl))) (by decide) (backOf (W := 0) (rm1_1 l Z a0 hw [] s_Move_NEXT_SIBLING h0 n0 Z0 P6) hZ (hw _ (List.mem_of_getElem? (i := 4) rfl)) (hw _ (List.mem_of_getElem? (i := 3) rfl)) (by decide) (by decide)) (g := (mkF m 9 #[.val (.int p1), .val (.int (1 : Int32)), .unset, .unset, .unset, .unset, .unset] [(.int (1 : Int32))])) rfl (by rw [hml]; rfl) (argsL := [(.int (1 : Int32))]) (rest := []) (lenOf pd_6 rfl) rfl (by show 2 * 0 + _ ≤ _; exact Nat.le_of_eq rfl) (hb hby at_9) (fun _ _ => ⟨rfl, e0, (by decide : 0 + 0 ≤ _), (by decide : 0 + 0 ≤ _)⟩)
    dsimp only [Pt.U, Pt.locs, Pt.cells, Pt.slots] at X189 l189 y189 z189 st189 hQ189
    subst l189 y189 z189
    obtain ⟨rfl, Nq189, e189⟩ := hQ189
    have N189 := Fr.app N0 Nq189
    refine own_go (A := _) (B := T189.setTop (mkF m 12 #[.val (.int p1), .val (.int (1 : Int32)), .unset, .unset, .unset, .unset, .unset] [(.ref s_Move_NEXT_SIBLING)])) st189 ?_
    refine own_go (A := T189.setTop (mkF m 12 #[.val (.int p1), .val (.int (1 : Int32)), .unset, .unset, .unset, .unset, .unset] [(.ref s_Move_NEXT_SIBLING)])) (B := T189.setTop (mkF m 14 #[.val (.int p1), .val (.int (1 : Int32)), .val (.ref s_Move_NEXT_SIBLING), .unset, .unset, .unset, .unset] [(.ref s_Move_NEXT_SIBLING)])) (fun t k => ?_) ?_
    · show Steps p.tables e below (T189.setTop (mkF m 12 #[.val (.int p1), .val (.int (1 : Int32)), .unset, .unset, .unset, .unset, .unset] [(.ref s_Move_NEXT_SIBLING)])) _
      refine XS.astoreN X189.here hx rfl (hb hby at_12) rfl rfl (l' := #[.val (.int p1), .val (.int (1 : Int32)), .val (.ref s_Move_NEXT_SIBLING), .unset, .unset, .unset, .unset]) rfl ?_
      show Steps p.tables e below (T189.setTop (mkF m 13 #[.val (.int p1), .val (.int (1 : Int32)), .val (.ref s_Move_NEXT_SIBLING), .unset, .unset, .unset, .unset] [])) _
      refine XS.aloadN X189.here hx rfl (hb hby at_13) rfl rfl ?_
      exact k
    obtain ⟨cq190, kq190, q190a, q190b, q190c⟩ := isOf hZ e189 P7
    obtain ⟨_, _, ⟨T190, L190, k190, n190⟩, -, X190, ⟨Lc190, hQ190, l190, y190, z190⟩, st190⟩ := X189.virtualBack hx (y := (⟨"com/example/decider/decider/library/xpath/Move", "upward", "()Z"⟩ : MethodName)) (z := (⟨"com/example/decider/decider/library/xpath/Move", "upward", "()Z"⟩ : MethodName)) hown (mvT hZ (hw _ (List.mem_of_getElem? (i := 8) rfl))) (mvT hZ (hw _ (List.mem_of_getElem? (i := 9) rfl))) (notFace_of_selects (args := #[]) (mvT hZ (hw _ (List.mem_of_getElem? (i := 11) rfl)))) (mvT hZ (hw _ (List.mem_of_getElem? (i := 11) rfl))) (mvT hZ (hw _ (List.mem_of_getElem? (i := 10) rfl))) (by decide) (backOf (W := 0) (rm2 l Z a0 hw [] s_Move_NEXT_SIBLING s_Move_CONVERSE_FIRST_CHILD s_Move_CONVERSE_NEXT_SIBLING s_Move_TO_DOCUMENT h0 n0 Z0 P10 P14 P18) hZ (hw _ (List.mem_of_getElem? (i := 12) rfl)) (hw _ (List.mem_of_getElem? (i := 6) rfl)) (by decide) (by decide)) q190a q190c (g := (mkF m 14 #[.val (.int p1), .val (.int (1 : Int32)), .val (.ref s_Move_NEXT_SIBLING), .unset, .unset, .unset, .unset] [(.ref s_Move_NEXT_SIBLING)])) rfl (by rw [hml]; rfl) (Steps.refl _) (argsL := []) (rest := []) (lenOf pd_4 rfl) rfl (by show 2 * 0 + _ ≤ _; exact Nat.le_of_eq rfl) (hb hby at_14) (fun _ _ => ⟨rfl, e189, (by decide : 0 + 0 ≤ _), (by decide : 0 + 0 ≤ _)⟩)
    dsimp only [Pt.U, Pt.locs, Pt.cells, Pt.slots] at X190 l190 y190 z190 st190 hQ190
    subst l190 y190 z190
    obtain ⟨rfl, Nq190, e190⟩ := hQ190
    have N190 := Fr.app N189 Nq190
    refine own_go (A := _) (B := T190.setTop (mkF m 17 #[.val (.int p1), .val (.int (1 : Int32)), .val (.ref s_Move_NEXT_SIBLING), .unset, .unset, .unset, .unset] [(.int (frm2 s_Move_NEXT_SIBLING s_Move_CONVERSE_FIRST_CHILD s_Move_CONVERSE_NEXT_SIBLING s_Move_TO_DOCUMENT))])) (fun t k => st190.trans k) ?_
    refine own_go (A := T190.setTop (mkF m 17 #[.val (.int p1), .val (.int (1 : Int32)), .val (.ref s_Move_NEXT_SIBLING), .unset, .unset, .unset, .unset] [(.int (frm2 s_Move_NEXT_SIBLING s_Move_CONVERSE_FIRST_CHILD s_Move_CONVERSE_NEXT_SIBLING s_Move_TO_DOCUMENT))])) (B := T190.setTop (mkF m 19 #[.val (.int p1), .val (.int (1 : Int32)), .val (.ref s_Move_NEXT_SIBLING), .val (.int (frm2 s_Move_NEXT_SIBLING s_Move_CONVERSE_FIRST_CHILD s_Move_CONVERSE_NEXT_SIBLING s_Move_TO_DOCUMENT)), .unset, .unset, .unset] [(.ref s_Move_NEXT_SIBLING)])) (fun t k => ?_) ?_
    · show Steps p.tables e below (T190.setTop (mkF m 17 #[.val (.int p1), .val (.int (1 : Int32)), .val (.ref s_Move_NEXT_SIBLING), .unset, .unset, .unset, .unset] [(.int (frm2 s_Move_NEXT_SIBLING s_Move_CONVERSE_FIRST_CHILD s_Move_CONVERSE_NEXT_SIBLING s_Move_TO_DOCUMENT))])) _
      refine XS.istoreN X190.here hx rfl (hb hby at_17) rfl (l' := #[.val (.int p1), .val (.int (1 : Int32)), .val (.ref s_Move_NEXT_SIBLING), .val (.int (frm2 s_Move_NEXT_SIBLING s_Move_CONVERSE_FIRST_CHILD s_Move_CONVERSE_NEXT_SIBLING s_Move_TO_DOCUMENT)), .unset, .unset, .unset]) rfl ?_
      show Steps p.tables e below (T190.setTop (mkF m 18 #[.val (.int p1), .val (.int (1 : Int32)), .val (.ref s_Move_NEXT_SIBLING), .val (.int (frm2 s_Move_NEXT_SIBLING s_Move_CONVERSE_FIRST_CHILD s_Move_CONVERSE_NEXT_SIBLING s_Move_TO_DOCUMENT)), .unset, .unset, .unset] [])) _
      refine XS.aloadN X190.here hx rfl (hb hby at_18) rfl rfl ?_
      exact k
    obtain ⟨cq191, kq191, q191a, q191b, q191c⟩ := isOf hZ e190 P7
    obtain ⟨_, _, ⟨T191, L191, k191, n191⟩, -, X191, ⟨Lc191, hQ191, l191, y191, z191⟩, st191⟩ := X190.virtualBack hx (y := (⟨"com/example/decider/decider/library/xpath/Move", "modality", "()Lcom/example/decider/decider/logic/formula/Modality;"⟩ : MethodName)) (z := (⟨"com/example/decider/decider/library/xpath/Move", "modality", "()Lcom/example/decider/decider/logic/formula/Modality;"⟩ : MethodName)) hown (mvT hZ (hw _ (List.mem_of_getElem? (i := 19) rfl))) (mvT hZ (hw _ (List.mem_of_getElem? (i := 20) rfl))) (notFace_of_selects (args := #[]) (mvT hZ (hw _ (List.mem_of_getElem? (i := 22) rfl)))) (mvT hZ (hw _ (List.mem_of_getElem? (i := 22) rfl))) (mvT hZ (hw _ (List.mem_of_getElem? (i := 21) rfl))) (by decide) (backOf (W := 0) (rm3 l Z a0 hw [] s_Move_NEXT_SIBLING s_Modality_NEXT_SIBLING h0 n0 Z0 P9) hZ (hw _ (List.mem_of_getElem? (i := 23) rfl)) (hw _ (List.mem_of_getElem? (i := 6) rfl)) (by decide) (by decide)) q191a q191c (g := (mkF m 19 #[.val (.int p1), .val (.int (1 : Int32)), .val (.ref s_Move_NEXT_SIBLING), .val (.int (frm2 s_Move_NEXT_SIBLING s_Move_CONVERSE_FIRST_CHILD s_Move_CONVERSE_NEXT_SIBLING s_Move_TO_DOCUMENT)), .unset, .unset, .unset] [(.ref s_Move_NEXT_SIBLING)])) rfl (by rw [hml]; rfl) (Steps.refl _) (argsL := []) (rest := []) (lenOf pd_7 rfl) rfl (by show 2 * 0 + _ ≤ _; exact Nat.le_of_eq rfl) (hb hby at_19) (fun _ _ => ⟨rfl, e190, (by decide : 0 + 0 ≤ _), (by decide : 0 + 0 ≤ _)⟩)
    dsimp only [Pt.U, Pt.locs, Pt.cells, Pt.slots] at X191 l191 y191 z191 st191 hQ191
    subst l191 y191 z191
    obtain ⟨rfl, Nq191, e191⟩ := hQ191
    have N191 := Fr.app N190 Nq191
    refine own_go (A := _) (B := T191.setTop (mkF m 22 #[.val (.int p1), .val (.int (1 : Int32)), .val (.ref s_Move_NEXT_SIBLING), .val (.int (frm2 s_Move_NEXT_SIBLING s_Move_CONVERSE_FIRST_CHILD s_Move_CONVERSE_NEXT_SIBLING s_Move_TO_DOCUMENT)), .unset, .unset, .unset] [(.ref s_Modality_NEXT_SIBLING)])) (fun t k => st191.trans k) ?_
    refine own_go (A := T191.setTop (mkF m 22 #[.val (.int p1), .val (.int (1 : Int32)), .val (.ref s_Move_NEXT_SIBLING), .val (.int (frm2 s_Move_NEXT_SIBLING s_Move_CONVERSE_FIRST_CHILD s_Move_CONVERSE_NEXT_SIBLING s_Move_TO_DOCUMENT)), .unset, .unset, .unset] [(.ref s_Modality_NEXT_SIBLING)])) (B := T191.setTop (mkF m 31 #[.val (.int p1), .val (.int (1 : Int32)), .val (.ref s_Move_NEXT_SIBLING), .val (.int (frm2 s_Move_NEXT_SIBLING s_Move_CONVERSE_FIRST_CHILD s_Move_CONVERSE_NEXT_SIBLING s_Move_TO_DOCUMENT)), .val (.ref s_Modality_NEXT_SIBLING), .unset, .unset] [(.ref s_Modality_NEXT_SIBLING)])) (fun t k => ?_) ?_
    · show Steps p.tables e below (T191.setTop (mkF m 22 #[.val (.int p1), .val (.int (1 : Int32)), .val (.ref s_Move_NEXT_SIBLING), .val (.int (frm2 s_Move_NEXT_SIBLING s_Move_CONVERSE_FIRST_CHILD s_Move_CONVERSE_NEXT_SIBLING s_Move_TO_DOCUMENT)), .unset, .unset, .unset] [(.ref s_Modality_NEXT_SIBLING)])) _
      refine XS.astore X191.here hx rfl (hb hby at_22) rfl rfl (l' := #[.val (.int p1), .val (.int (1 : Int32)), .val (.ref s_Move_NEXT_SIBLING), .val (.int (frm2 s_Move_NEXT_SIBLING s_Move_CONVERSE_FIRST_CHILD s_Move_CONVERSE_NEXT_SIBLING s_Move_TO_DOCUMENT)), .val (.ref s_Modality_NEXT_SIBLING), .unset, .unset]) rfl ?_
      show Steps p.tables e below (T191.setTop (mkF m 24 #[.val (.int p1), .val (.int (1 : Int32)), .val (.ref s_Move_NEXT_SIBLING), .val (.int (frm2 s_Move_NEXT_SIBLING s_Move_CONVERSE_FIRST_CHILD s_Move_CONVERSE_NEXT_SIBLING s_Move_TO_DOCUMENT)), .val (.ref s_Modality_NEXT_SIBLING), .unset, .unset] [])) _
      refine XS.aload X191.here hx rfl (hb hby at_24) rfl rfl ?_
      show Steps p.tables e below (T191.setTop (mkF m 26 #[.val (.int p1), .val (.int (1 : Int32)), .val (.ref s_Move_NEXT_SIBLING), .val (.int (frm2 s_Move_NEXT_SIBLING s_Move_CONVERSE_FIRST_CHILD s_Move_CONVERSE_NEXT_SIBLING s_Move_TO_DOCUMENT)), .val (.ref s_Modality_NEXT_SIBLING), .unset, .unset] [(.ref s_Modality_NEXT_SIBLING)])) _
      refine XS.ifnullNo X191.here hx rfl (hb hby at_26) rfl ?_
      show Steps p.tables e below (T191.setTop (mkF m 29 #[.val (.int p1), .val (.int (1 : Int32)), .val (.ref s_Move_NEXT_SIBLING), .val (.int (frm2 s_Move_NEXT_SIBLING s_Move_CONVERSE_FIRST_CHILD s_Move_CONVERSE_NEXT_SIBLING s_Move_TO_DOCUMENT)), .val (.ref s_Modality_NEXT_SIBLING), .unset, .unset] [])) _
      refine XS.aload X191.here hx rfl (hb hby at_29) rfl rfl ?_
      exact k
    obtain ⟨cq192, kq192, q192a, q192b, q192c⟩ := isOf hZ e191 P32
    obtain ⟨_, _, ⟨T192, L192, k192, n192⟩, -, X192, ⟨Lc192, hQ192, l192, y192, z192⟩, st192⟩ := X191.virtualBack hx (y := (⟨"com/example/decider/decider/logic/formula/Modality", "spelling", "()Ljava/lang/String;"⟩ : MethodName)) (z := (⟨"com/example/decider/decider/logic/formula/Modality", "spelling", "()Ljava/lang/String;"⟩ : MethodName)) hown (mvT hZ (hw _ (List.mem_of_getElem? (i := 28) rfl))) (mvT hZ (hw _ (List.mem_of_getElem? (i := 29) rfl))) (notFace_of_selects (args := #[]) (mvT hZ (hw _ (List.mem_of_getElem? (i := 31) rfl)))) (mvT hZ (hw _ (List.mem_of_getElem? (i := 31) rfl))) (mvT hZ (hw _ (List.mem_of_getElem? (i := 30) rfl))) (by decide) (backOf (W := 0) (rm4 l Z a0 hw [] s_Modality_NEXT_SIBLING t1 h0 n0 Z0 P33) hZ (hw _ (List.mem_of_getElem? (i := 32) rfl)) (hw _ (List.mem_of_getElem? (i := 26) rfl)) (by decide) (by decide)) q192a q192c (g := (mkF m 31 #[.val (.int p1), .val (.int (1 : Int32)), .val (.ref s_Move_NEXT_SIBLING), .val (.int (frm2 s_Move_NEXT_SIBLING s_Move_CONVERSE_FIRST_CHILD s_Move_CONVERSE_NEXT_SIBLING s_Move_TO_DOCUMENT)), .val (.ref s_Modality_NEXT_SIBLING), .unset, .unset] [(.ref s_Modality_NEXT_SIBLING)])) rfl (by rw [hml]; rfl) (Steps.refl _) (argsL := []) (rest := []) (lenOf pd_8 rfl) rfl (by show 2 * 0 + _ ≤ _; exact Nat.le_of_eq rfl) (hb hby at_31) (fun _ _ => ⟨rfl, e191, (by decide : 0 + 0 ≤ _), (by decide : 0 + 0 ≤ _)⟩)
    dsimp only [Pt.U, Pt.locs, Pt.cells, Pt.slots] at X192 l192 y192 z192 st192 hQ192
    subst l192 y192 z192
    obtain ⟨rfl, Nq192, e192⟩ := hQ192
    have N192 := Fr.app N191 Nq192
    refine own_go (A := _) (B := T192.setTop (mkF m 34 #[.val (.int p1), .val (.int (1 : Int32)), .val (.ref s_Move_NEXT_SIBLING), .val (.int (frm2 s_Move_NEXT_SIBLING s_Move_CONVERSE_FIRST_CHILD s_Move_CONVERSE_NEXT_SIBLING s_Move_TO_DOCUMENT)), .val (.ref s_Modality_NEXT_SIBLING), .unset, .unset] [(.ref t1)])) (fun t k => st192.trans k) ?_
    refine own_go (A := T192.setTop (mkF m 34 #[.val (.int p1), .val (.int (1 : Int32)), .val (.ref s_Move_NEXT_SIBLING), .val (.int (frm2 s_Move_NEXT_SIBLING s_Move_CONVERSE_FIRST_CHILD s_Move_CONVERSE_NEXT_SIBLING s_Move_TO_DOCUMENT)), .val (.ref s_Modality_NEXT_SIBLING), .unset, .unset] [(.ref t1)])) (B := T192.setTop (mkF m 38 #[.val (.int p1), .val (.int (1 : Int32)), .val (.ref s_Move_NEXT_SIBLING), .val (.int (frm2 s_Move_NEXT_SIBLING s_Move_CONVERSE_FIRST_CHILD s_Move_CONVERSE_NEXT_SIBLING s_Move_TO_DOCUMENT)), .val (.ref s_Modality_NEXT_SIBLING), .unset, .val (.ref t1)] [(.ref t1)])) (fun t k => ?_) ?_
    · show Steps p.tables e below (T192.setTop (mkF m 34 #[.val (.int p1), .val (.int (1 : Int32)), .val (.ref s_Move_NEXT_SIBLING), .val (.int (frm2 s_Move_NEXT_SIBLING s_Move_CONVERSE_FIRST_CHILD s_Move_CONVERSE_NEXT_SIBLING s_Move_TO_DOCUMENT)), .val (.ref s_Modality_NEXT_SIBLING), .unset, .unset] [(.ref t1)])) _
      refine XS.astore X192.here hx rfl (hb hby at_34) rfl rfl (l' := #[.val (.int p1), .val (.int (1 : Int32)), .val (.ref s_Move_NEXT_SIBLING), .val (.int (frm2 s_Move_NEXT_SIBLING s_Move_CONVERSE_FIRST_CHILD s_Move_CONVERSE_NEXT_SIBLING s_Move_TO_DOCUMENT)), .val (.ref s_Modality_NEXT_SIBLING), .unset, .val (.ref t1)]) rfl ?_
      show Steps p.tables e below (T192.setTop (mkF m 36 #[.val (.int p1), .val (.int (1 : Int32)), .val (.ref s_Move_NEXT_SIBLING), .val (.int (frm2 s_Move_NEXT_SIBLING s_Move_CONVERSE_FIRST_CHILD s_Move_CONVERSE_NEXT_SIBLING s_Move_TO_DOCUMENT)), .val (.ref s_Modality_NEXT_SIBLING), .unset, .val (.ref t1)] [])) _
      refine XS.aload X192.here hx rfl (hb hby at_36) rfl rfl ?_
      exact k
    obtain ⟨cq193, kq193, q193a, q193b, q193c⟩ := isOf hZ e192 P34
    obtain ⟨_, _, ⟨T193, L193, k193, n193⟩, -, X193, ⟨Lc193, hQ193, l193, y193, z193⟩, st193⟩ := X192.virtualBack hx (y := (⟨"java/lang/String", "length", "()I"⟩ : MethodName)) (z := (⟨"java/lang/String", "length", "()I"⟩ : MethodName)) hown (mvT hZ (hw _ (List.mem_of_getElem? (i := 35) rfl))) (mvT hZ (hw _ (List.mem_of_getElem? (i := 36) rfl))) (notFace_of_selects (args := #[]) (mvT hZ (hw _ (List.mem_of_getElem? (i := 38) rfl)))) (mvT hZ (hw _ (List.mem_of_getElem? (i := 38) rfl))) (mvT hZ (hw _ (List.mem_of_getElem? (i := 37) rfl))) (by decide) (backOf (W := 0) (rm5_3 l Z a0 hw [] t1 cs (60 : Int32) (50 : Int32) (62 : Int32) v1 kk1 h0 n0 Z0 P34 P0 P36 P35 P37 hcs) hZ (hw _ (List.mem_of_getElem? (i := 40) rfl)) (hw _ (List.mem_of_getElem? (i := 39) rfl)) (by decide) (by decide)) q193a q193c (g := (mkF m 38 #[.val (.int p1), .val (.int (1 : Int32)), .val (.ref s_Move_NEXT_SIBLING), .val (.int (frm2 s_Move_NEXT_SIBLING s_Move_CONVERSE_FIRST_CHILD s_Move_CONVERSE_NEXT_SIBLING s_Move_TO_DOCUMENT)), .val (.ref s_Modality_NEXT_SIBLING), .unset, .val (.ref t1)] [(.ref t1)])) rfl (by rw [hml]; rfl) (Steps.refl _) (argsL := []) (rest := []) (lenOf pd_0 rfl) rfl (by show 2 * 0 + _ ≤ _; exact Nat.le_of_eq rfl) (hb hby at_38) (fun _ _ => ⟨rfl, e192, (by decide : 0 + 0 ≤ _), (by decide : 0 + 0 ≤ _)⟩)
    dsimp only [Pt.U, Pt.locs, Pt.cells, Pt.slots] at X193 l193 y193 z193 st193 hQ193
    subst l193 y193 z193
    obtain ⟨rfl, Nq193, e193⟩ := hQ193
    have N193 := Fr.app N192 Nq193
    refine own_go (A := _) (B := T193.setTop (mkF m 41 #[.val (.int p1), .val (.int (1 : Int32)), .val (.ref s_Move_NEXT_SIBLING), .val (.int (frm2 s_Move_NEXT_SIBLING s_Move_CONVERSE_FIRST_CHILD s_Move_CONVERSE_NEXT_SIBLING s_Move_TO_DOCUMENT)), .val (.ref s_Modality_NEXT_SIBLING), .unset, .val (.ref t1)] [(.int (3 : Int32))])) (fun t k => st193.trans k) ?_
    refine own_go (A := T193.setTop (mkF m 41 #[.val (.int p1), .val (.int (1 : Int32)), .val (.ref s_Move_NEXT_SIBLING), .val (.int (frm2 s_Move_NEXT_SIBLING s_Move_CONVERSE_FIRST_CHILD s_Move_CONVERSE_NEXT_SIBLING s_Move_TO_DOCUMENT)), .val (.ref s_Modality_NEXT_SIBLING), .unset, .val (.ref t1)] [(.int (3 : Int32))])) (B := T193.setTop (mkF m 48 #[.val (.int p1), .val (.int (1 : Int32)), .val (.ref s_Move_NEXT_SIBLING), .val (.int (frm2 s_Move_NEXT_SIBLING s_Move_CONVERSE_FIRST_CHILD s_Move_CONVERSE_NEXT_SIBLING s_Move_TO_DOCUMENT)), .val (.ref s_Modality_NEXT_SIBLING), .unset, .val (.ref t1)] [(.int (1 : Int32)), (.ref t1)])) (fun t k => ?_) ?_
    · show Steps p.tables e below (T193.setTop (mkF m 41 #[.val (.int p1), .val (.int (1 : Int32)), .val (.ref s_Move_NEXT_SIBLING), .val (.int (frm2 s_Move_NEXT_SIBLING s_Move_CONVERSE_FIRST_CHILD s_Move_CONVERSE_NEXT_SIBLING s_Move_TO_DOCUMENT)), .val (.ref s_Modality_NEXT_SIBLING), .unset, .val (.ref t1)] [(.int (3 : Int32))])) _
      refine XS.iconst X193.here hx rfl (hb hby at_41) ?_
      show Steps p.tables e below (T193.setTop (mkF m 42 #[.val (.int p1), .val (.int (1 : Int32)), .val (.ref s_Move_NEXT_SIBLING), .val (.int (frm2 s_Move_NEXT_SIBLING s_Move_CONVERSE_FIRST_CHILD s_Move_CONVERSE_NEXT_SIBLING s_Move_TO_DOCUMENT)), .val (.ref s_Modality_NEXT_SIBLING), .unset, .val (.ref t1)] [(.int (1 : Int32)), (.int (3 : Int32))])) _
      refine XS.icmpNo X193.here hx rfl (hb hby at_42) rfl (tlt (by decide : ((1 : Int32) < (3 : Int32)))).2.2.2 ?_
      show Steps p.tables e below (T193.setTop (mkF m 45 #[.val (.int p1), .val (.int (1 : Int32)), .val (.ref s_Move_NEXT_SIBLING), .val (.int (frm2 s_Move_NEXT_SIBLING s_Move_CONVERSE_FIRST_CHILD s_Move_CONVERSE_NEXT_SIBLING s_Move_TO_DOCUMENT)), .val (.ref s_Modality_NEXT_SIBLING), .unset, .val (.ref t1)] [])) _
      refine XS.aload X193.here hx rfl (hb hby at_45) rfl rfl ?_
      show Steps p.tables e below (T193.setTop (mkF m 47 #[.val (.int p1), .val (.int (1 : Int32)), .val (.ref s_Move_NEXT_SIBLING), .val (.int (frm2 s_Move_NEXT_SIBLING s_Move_CONVERSE_FIRST_CHILD s_Move_CONVERSE_NEXT_SIBLING s_Move_TO_DOCUMENT)), .val (.ref s_Modality_NEXT_SIBLING), .unset, .val (.ref t1)] [(.ref t1)])) _
      refine XS.iconst X193.here hx rfl (hb hby at_47) ?_
      exact k
    obtain ⟨cq195, kq195, q195a, q195b, q195c⟩ := isOf hZ e193 P34
    obtain ⟨_, _, ⟨T195, L195, k195, n195⟩, -, X195, ⟨Lc195, hQ195, l195, y195, z195⟩, st195⟩ := X193.virtualBack hx (y := (⟨"java/lang/String", "charAt", "(I)C"⟩ : MethodName)) (z := (⟨"java/lang/String", "charAt", "(I)C"⟩ : MethodName)) hown (mvT hZ (hw _ (List.mem_of_getElem? (i := 51) rfl))) (mvT hZ (hw _ (List.mem_of_getElem? (i := 52) rfl))) (notFace_of_selects (args := #[]) (mvT hZ (hw _ (List.mem_of_getElem? (i := 54) rfl)))) (mvT hZ (hw _ (List.mem_of_getElem? (i := 54) rfl))) (mvT hZ (hw _ (List.mem_of_getElem? (i := 53) rfl))) (by decide) (backOf (W := 0) (rm7_3N l Z a0 hw [] t1 cs (60 : Int32) (50 : Int32) (62 : Int32) v1 kk1 h0 n0 Z0 P34 P0 P1 P36 P35 P37 hcs) hZ (hw _ (List.mem_of_getElem? (i := 55) rfl)) (hw _ (List.mem_of_getElem? (i := 39) rfl)) (by decide) (by decide)) q195a q195c (g := (mkF m 48 #[.val (.int p1), .val (.int (1 : Int32)), .val (.ref s_Move_NEXT_SIBLING), .val (.int (frm2 s_Move_NEXT_SIBLING s_Move_CONVERSE_FIRST_CHILD s_Move_CONVERSE_NEXT_SIBLING s_Move_TO_DOCUMENT)), .val (.ref s_Modality_NEXT_SIBLING), .unset, .val (.ref t1)] [(.int (1 : Int32)), (.ref t1)])) rfl (by rw [hml]; rfl) (Steps.refl _) (argsL := [(.int (1 : Int32))]) (rest := []) (lenOf pd_9 rfl) rfl (by show 2 * 0 + _ ≤ _; exact Nat.le_of_eq rfl) (hb hby at_48) (fun _ _ => ⟨rfl, e193, (by decide : 0 + 0 ≤ _), (by decide : 0 + 0 ≤ _)⟩)
    dsimp only [Pt.U, Pt.locs, Pt.cells, Pt.slots] at X195 l195 y195 z195 st195 hQ195
    subst l195 y195 z195
    obtain ⟨rfl, Nq195, e195⟩ := hQ195
    have N195 := Fr.app N193 Nq195
    refine own_go (A := _) (B := T195.setTop (mkF m 51 #[.val (.int p1), .val (.int (1 : Int32)), .val (.ref s_Move_NEXT_SIBLING), .val (.int (frm2 s_Move_NEXT_SIBLING s_Move_CONVERSE_FIRST_CHILD s_Move_CONVERSE_NEXT_SIBLING s_Move_TO_DOCUMENT)), .val (.ref s_Modality_NEXT_SIBLING), .unset, .val (.ref t1)] [(.int (nar .char (nar .char (((50 : Int32) &&& (255 : Int32)).toUInt32.toUInt16.toUInt32.toInt32))))])) (fun t k => st195.trans k) ?_
    refine own_go (A := T195.setTop (mkF m 51 #[.val (.int p1), .val (.int (1 : Int32)), .val (.ref s_Move_NEXT_SIBLING), .val (.int (frm2 s_Move_NEXT_SIBLING s_Move_CONVERSE_FIRST_CHILD s_Move_CONVERSE_NEXT_SIBLING s_Move_TO_DOCUMENT)), .val (.ref s_Modality_NEXT_SIBLING), .unset, .val (.ref t1)] [(.int (nar .char (nar .char (((50 : Int32) &&& (255 : Int32)).toUInt32.toUInt16.toUInt32.toInt32))))])) (B := T195.setTop (mkF m 53 #[.val (.int p1), .val (.int (1 : Int32)), .val (.ref s_Move_NEXT_SIBLING), .val (.int (frm2 s_Move_NEXT_SIBLING s_Move_CONVERSE_FIRST_CHILD s_Move_CONVERSE_NEXT_SIBLING s_Move_TO_DOCUMENT)), .val (.ref s_Modality_NEXT_SIBLING), .unset, .val (.ref t1)] [(.int (45 : Int32)), (.int (nar .char (nar .char (((50 : Int32) &&& (255 : Int32)).toUInt32.toUInt16.toUInt32.toInt32))))])) (fun t k => ?_) ?_
    · show Steps p.tables e below (T195.setTop (mkF m 51 #[.val (.int p1), .val (.int (1 : Int32)), .val (.ref s_Move_NEXT_SIBLING), .val (.int (frm2 s_Move_NEXT_SIBLING s_Move_CONVERSE_FIRST_CHILD s_Move_CONVERSE_NEXT_SIBLING s_Move_TO_DOCUMENT)), .val (.ref s_Modality_NEXT_SIBLING), .unset, .val (.ref t1)] [(.int (nar .char (nar .char (((50 : Int32) &&& (255 : Int32)).toUInt32.toUInt16.toUInt32.toInt32))))])) _
      refine XS.bipush X195.here hx rfl (hb hby at_51) ?_
      exact k
    have hc53_196 : ¬ ((nar .char (nar .char (((50 : Int32) &&& (255 : Int32)).toUInt32.toUInt16.toUInt32.toInt32))) = (45 : Int32)) := by decide
    refine own_go (A := T195.setTop (mkF m 53 #[.val (.int p1), .val (.int (1 : Int32)), .val (.ref s_Move_NEXT_SIBLING), .val (.int (frm2 s_Move_NEXT_SIBLING s_Move_CONVERSE_FIRST_CHILD s_Move_CONVERSE_NEXT_SIBLING s_Move_TO_DOCUMENT)), .val (.ref s_Modality_NEXT_SIBLING), .unset, .val (.ref t1)] [(.int (45 : Int32)), (.int (nar .char (nar .char (((50 : Int32) &&& (255 : Int32)).toUInt32.toUInt16.toUInt32.toInt32))))])) (B := T195.setTop (mkF m 81 #[.val (.int p1), .val (.int (1 : Int32)), .val (.ref s_Move_NEXT_SIBLING), .val (.int (frm2 s_Move_NEXT_SIBLING s_Move_CONVERSE_FIRST_CHILD s_Move_CONVERSE_NEXT_SIBLING s_Move_TO_DOCUMENT)), .val (.ref s_Modality_NEXT_SIBLING), .val (.int (0 : Int32)), .val (.ref t1)] [(.ref s_Move_NEXT_SIBLING)])) (fun t k => ?_) ?_
    · show Steps p.tables e below (T195.setTop (mkF m 53 #[.val (.int p1), .val (.int (1 : Int32)), .val (.ref s_Move_NEXT_SIBLING), .val (.int (frm2 s_Move_NEXT_SIBLING s_Move_CONVERSE_FIRST_CHILD s_Move_CONVERSE_NEXT_SIBLING s_Move_TO_DOCUMENT)), .val (.ref s_Modality_NEXT_SIBLING), .unset, .val (.ref t1)] [(.int (45 : Int32)), (.int (nar .char (nar .char (((50 : Int32) &&& (255 : Int32)).toUInt32.toUInt16.toUInt32.toInt32))))])) _
      refine XS.icmpYes X195.here hx rfl (pc0 := 53) (pc' := 60) rfl (hb hby at_53) rfl (feq hc53_196).2 (by decide) (by decide) ?_
      show Steps p.tables e below (T195.setTop (mkF m 60 #[.val (.int p1), .val (.int (1 : Int32)), .val (.ref s_Move_NEXT_SIBLING), .val (.int (frm2 s_Move_NEXT_SIBLING s_Move_CONVERSE_FIRST_CHILD s_Move_CONVERSE_NEXT_SIBLING s_Move_TO_DOCUMENT)), .val (.ref s_Modality_NEXT_SIBLING), .unset, .val (.ref t1)] [])) _
      refine XS.iconst X195.here hx rfl (hb hby at_60) ?_
      show Steps p.tables e below (T195.setTop (mkF m 61 #[.val (.int p1), .val (.int (1 : Int32)), .val (.ref s_Move_NEXT_SIBLING), .val (.int (frm2 s_Move_NEXT_SIBLING s_Move_CONVERSE_FIRST_CHILD s_Move_CONVERSE_NEXT_SIBLING s_Move_TO_DOCUMENT)), .val (.ref s_Modality_NEXT_SIBLING), .unset, .val (.ref t1)] [(.int (0 : Int32))])) _
      refine XS.istore X195.here hx rfl (hb hby at_61) rfl (l' := #[.val (.int p1), .val (.int (1 : Int32)), .val (.ref s_Move_NEXT_SIBLING), .val (.int (frm2 s_Move_NEXT_SIBLING s_Move_CONVERSE_FIRST_CHILD s_Move_CONVERSE_NEXT_SIBLING s_Move_TO_DOCUMENT)), .val (.ref s_Modality_NEXT_SIBLING), .val (.int (0 : Int32)), .val (.ref t1)]) rfl ?_
      show Steps p.tables e below (T195.setTop (mkF m 63 #[.val (.int p1), .val (.int (1 : Int32)), .val (.ref s_Move_NEXT_SIBLING), .val (.int (frm2 s_Move_NEXT_SIBLING s_Move_CONVERSE_FIRST_CHILD s_Move_CONVERSE_NEXT_SIBLING s_Move_TO_DOCUMENT)), .val (.ref s_Modality_NEXT_SIBLING), .val (.int (0 : Int32)), .val (.ref t1)] [])) _
      refine XS.goto X195.here hx rfl (pc0 := 63) (pc' := 80) rfl (hb hby at_63) (by decide) (by decide) ?_
      show Steps p.tables e below (T195.setTop (mkF m 80 #[.val (.int p1), .val (.int (1 : Int32)), .val (.ref s_Move_NEXT_SIBLING), .val (.int (frm2 s_Move_NEXT_SIBLING s_Move_CONVERSE_FIRST_CHILD s_Move_CONVERSE_NEXT_SIBLING s_Move_TO_DOCUMENT)), .val (.ref s_Modality_NEXT_SIBLING), .val (.int (0 : Int32)), .val (.ref t1)] [])) _
      refine XS.aloadN X195.here hx rfl (hb hby at_80) rfl rfl ?_
      exact k
    obtain ⟨cq197, kq197, q197a, q197b, q197c⟩ := isOf hZ e195 P7
    obtain ⟨_, _, ⟨T197, L197, k197, n197⟩, -, X197, ⟨Lc197, hQ197, l197, y197, z197⟩, st197⟩ := X195.virtualBack hx (y := (⟨"com/example/decider/decider/library/xpath/Move", "inverse", "()Lcom/example/decider/decider/library/xpath/Move;"⟩ : MethodName)) (z := (⟨"com/example/decider/decider/library/xpath/Move", "inverse", "()Lcom/example/decider/decider/library/xpath/Move;"⟩ : MethodName)) hown (mvT hZ (hw _ (List.mem_of_getElem? (i := 73) rfl))) (mvT hZ (hw _ (List.mem_of_getElem? (i := 74) rfl))) (notFace_of_selects (args := #[]) (mvT hZ (hw _ (List.mem_of_getElem? (i := 76) rfl)))) (mvT hZ (hw _ (List.mem_of_getElem? (i := 76) rfl))) (mvT hZ (hw _ (List.mem_of_getElem? (i := 75) rfl))) (by decide) (backOf (W := 0) (rm12_1 l Z a0 hw [] s_Move_NEXT_SIBLING s_Move_CONVERSE_NEXT_SIBLING h0 n0 Z0 P7 P14 P8) hZ (hw _ (List.mem_of_getElem? (i := 77) rfl)) (hw _ (List.mem_of_getElem? (i := 6) rfl)) (by decide) (by decide)) q197a q197c (g := (mkF m 81 #[.val (.int p1), .val (.int (1 : Int32)), .val (.ref s_Move_NEXT_SIBLING), .val (.int (frm2 s_Move_NEXT_SIBLING s_Move_CONVERSE_FIRST_CHILD s_Move_CONVERSE_NEXT_SIBLING s_Move_TO_DOCUMENT)), .val (.ref s_Modality_NEXT_SIBLING), .val (.int (0 : Int32)), .val (.ref t1)] [(.ref s_Move_NEXT_SIBLING)])) rfl (by rw [hml]; rfl) (Steps.refl _) (argsL := []) (rest := []) (lenOf pd_10 rfl) rfl (by show 2 * 0 + _ ≤ _; exact Nat.le_of_eq rfl) (hb hby at_81) (fun _ _ => ⟨rfl, e195, (by decide : 0 + 0 ≤ _), (by decide : 0 + 0 ≤ _)⟩)
    dsimp only [Pt.U, Pt.locs, Pt.cells, Pt.slots] at X197 l197 y197 z197 st197 hQ197
    subst l197 y197 z197
    obtain ⟨rfl, Nq197, e197⟩ := hQ197
    have N197 := Fr.app N195 Nq197
    refine own_go (A := _) (B := T197.setTop (mkF m 84 #[.val (.int p1), .val (.int (1 : Int32)), .val (.ref s_Move_NEXT_SIBLING), .val (.int (frm2 s_Move_NEXT_SIBLING s_Move_CONVERSE_FIRST_CHILD s_Move_CONVERSE_NEXT_SIBLING s_Move_TO_DOCUMENT)), .val (.ref s_Modality_NEXT_SIBLING), .val (.int (0 : Int32)), .val (.ref t1)] [(.ref s_Move_CONVERSE_NEXT_SIBLING)])) (fun t k => st197.trans k) ?_
    obtain ⟨cq198, kq198, q198a, q198b, q198c⟩ := isOf hZ e197 P15
    obtain ⟨_, _, ⟨T198, L198, k198, n198⟩, -, X198, ⟨Lc198, hQ198, l198, y198, z198⟩, st198⟩ := X197.virtualBack hx (y := (⟨"com/example/decider/decider/library/xpath/Move", "upward", "()Z"⟩ : MethodName)) (z := (⟨"com/example/decider/decider/library/xpath/Move", "upward", "()Z"⟩ : MethodName)) hown (mvT hZ (hw _ (List.mem_of_getElem? (i := 8) rfl))) (mvT hZ (hw _ (List.mem_of_getElem? (i := 9) rfl))) (notFace_of_selects (args := #[]) (mvT hZ (hw _ (List.mem_of_getElem? (i := 11) rfl)))) (mvT hZ (hw _ (List.mem_of_getElem? (i := 11) rfl))) (mvT hZ (hw _ (List.mem_of_getElem? (i := 10) rfl))) (by decide) (backOf (W := 0) (rm2 l Z a0 hw [] s_Move_CONVERSE_NEXT_SIBLING s_Move_CONVERSE_FIRST_CHILD s_Move_CONVERSE_NEXT_SIBLING s_Move_TO_DOCUMENT h0 n0 Z0 P10 P14 P18) hZ (hw _ (List.mem_of_getElem? (i := 12) rfl)) (hw _ (List.mem_of_getElem? (i := 6) rfl)) (by decide) (by decide)) q198a q198c (g := (mkF m 84 #[.val (.int p1), .val (.int (1 : Int32)), .val (.ref s_Move_NEXT_SIBLING), .val (.int (frm2 s_Move_NEXT_SIBLING s_Move_CONVERSE_FIRST_CHILD s_Move_CONVERSE_NEXT_SIBLING s_Move_TO_DOCUMENT)), .val (.ref s_Modality_NEXT_SIBLING), .val (.int (0 : Int32)), .val (.ref t1)] [(.ref s_Move_CONVERSE_NEXT_SIBLING)])) rfl (by rw [hml]; rfl) (Steps.refl _) (argsL := []) (rest := []) (lenOf pd_4 rfl) rfl (by show 2 * 0 + _ ≤ _; exact Nat.le_of_eq rfl) (hb hby at_84) (fun _ _ => ⟨rfl, e197, (by decide : 0 + 0 ≤ _), (by decide : 0 + 0 ≤ _)⟩)
    dsimp only [Pt.U, Pt.locs, Pt.cells, Pt.slots] at X198 l198 y198 z198 st198 hQ198
    subst l198 y198 z198
    obtain ⟨rfl, Nq198, e198⟩ := hQ198
    have N198 := Fr.app N197 Nq198
    refine own_go (A := _) (B := T198.setTop (mkF m 87 #[.val (.int p1), .val (.int (1 : Int32)), .val (.ref s_Move_NEXT_SIBLING), .val (.int (frm2 s_Move_NEXT_SIBLING s_Move_CONVERSE_FIRST_CHILD s_Move_CONVERSE_NEXT_SIBLING s_Move_TO_DOCUMENT)), .val (.ref s_Modality_NEXT_SIBLING), .val (.int (0 : Int32)), .val (.ref t1)] [(.int (frm2 s_Move_CONVERSE_NEXT_SIBLING s_Move_CONVERSE_FIRST_CHILD s_Move_CONVERSE_NEXT_SIBLING s_Move_TO_DOCUMENT))])) (fun t k => st198.trans k) ?_
    refine own_go (A := T198.setTop (mkF m 87 #[.val (.int p1), .val (.int (1 : Int32)), .val (.ref s_Move_NEXT_SIBLING), .val (.int (frm2 s_Move_NEXT_SIBLING s_Move_CONVERSE_FIRST_CHILD s_Move_CONVERSE_NEXT_SIBLING s_Move_TO_DOCUMENT)), .val (.ref s_Modality_NEXT_SIBLING), .val (.int (0 : Int32)), .val (.ref t1)] [(.int (frm2 s_Move_CONVERSE_NEXT_SIBLING s_Move_CONVERSE_FIRST_CHILD s_Move_CONVERSE_NEXT_SIBLING s_Move_TO_DOCUMENT))])) (B := T198.setTop (mkF m 92 #[.val (.int p1), .val (.int (1 : Int32)), .val (.ref s_Move_NEXT_SIBLING), .val (.int (frm2 s_Move_NEXT_SIBLING s_Move_CONVERSE_FIRST_CHILD s_Move_CONVERSE_NEXT_SIBLING s_Move_TO_DOCUMENT)), .val (.ref s_Modality_NEXT_SIBLING), .val (.int (0 : Int32)), .val (.int (frm2 s_Move_CONVERSE_NEXT_SIBLING s_Move_CONVERSE_FIRST_CHILD s_Move_CONVERSE_NEXT_SIBLING s_Move_TO_DOCUMENT))] [(.int (0 : Int32)), (.int (frm2 s_Move_NEXT_SIBLING s_Move_CONVERSE_FIRST_CHILD s_Move_CONVERSE_NEXT_SIBLING s_Move_TO_DOCUMENT))])) (fun t k => ?_) ?_
    · show Steps p.tables e below (T198.setTop (mkF m 87 #[.val (.int p1), .val (.int (1 : Int32)), .val (.ref s_Move_NEXT_SIBLING), .val (.int (frm2 s_Move_NEXT_SIBLING s_Move_CONVERSE_FIRST_CHILD s_Move_CONVERSE_NEXT_SIBLING s_Move_TO_DOCUMENT)), .val (.ref s_Modality_NEXT_SIBLING), .val (.int (0 : Int32)), .val (.ref t1)] [(.int (frm2 s_Move_CONVERSE_NEXT_SIBLING s_Move_CONVERSE_FIRST_CHILD s_Move_CONVERSE_NEXT_SIBLING s_Move_TO_DOCUMENT))])) _
      refine XS.istore X198.here hx rfl (hb hby at_87) rfl (l' := #[.val (.int p1), .val (.int (1 : Int32)), .val (.ref s_Move_NEXT_SIBLING), .val (.int (frm2 s_Move_NEXT_SIBLING s_Move_CONVERSE_FIRST_CHILD s_Move_CONVERSE_NEXT_SIBLING s_Move_TO_DOCUMENT)), .val (.ref s_Modality_NEXT_SIBLING), .val (.int (0 : Int32)), .val (.int (frm2 s_Move_CONVERSE_NEXT_SIBLING s_Move_CONVERSE_FIRST_CHILD s_Move_CONVERSE_NEXT_SIBLING s_Move_TO_DOCUMENT))]) rfl ?_
      show Steps p.tables e below (T198.setTop (mkF m 89 #[.val (.int p1), .val (.int (1 : Int32)), .val (.ref s_Move_NEXT_SIBLING), .val (.int (frm2 s_Move_NEXT_SIBLING s_Move_CONVERSE_FIRST_CHILD s_Move_CONVERSE_NEXT_SIBLING s_Move_TO_DOCUMENT)), .val (.ref s_Modality_NEXT_SIBLING), .val (.int (0 : Int32)), .val (.int (frm2 s_Move_CONVERSE_NEXT_SIBLING s_Move_CONVERSE_FIRST_CHILD s_Move_CONVERSE_NEXT_SIBLING s_Move_TO_DOCUMENT))] [])) _
      refine XS.iloadN X198.here hx rfl (hb hby at_89) rfl ?_
      show Steps p.tables e below (T198.setTop (mkF m 90 #[.val (.int p1), .val (.int (1 : Int32)), .val (.ref s_Move_NEXT_SIBLING), .val (.int (frm2 s_Move_NEXT_SIBLING s_Move_CONVERSE_FIRST_CHILD s_Move_CONVERSE_NEXT_SIBLING s_Move_TO_DOCUMENT)), .val (.ref s_Modality_NEXT_SIBLING), .val (.int (0 : Int32)), .val (.int (frm2 s_Move_CONVERSE_NEXT_SIBLING s_Move_CONVERSE_FIRST_CHILD s_Move_CONVERSE_NEXT_SIBLING s_Move_TO_DOCUMENT))] [(.int (frm2 s_Move_NEXT_SIBLING s_Move_CONVERSE_FIRST_CHILD s_Move_CONVERSE_NEXT_SIBLING s_Move_TO_DOCUMENT))])) _
      refine XS.iload X198.here hx rfl (hb hby at_90) rfl ?_
      exact k
    have hc92_199 : ((frm2 s_Move_NEXT_SIBLING s_Move_CONVERSE_FIRST_CHILD s_Move_CONVERSE_NEXT_SIBLING s_Move_TO_DOCUMENT) = (0 : Int32)) := by simp [frm2, ne_s_Move_NEXT_SIBLING_s_Move_CONVERSE_FIRST_CHILD, ne_s_Move_NEXT_SIBLING_s_Move_CONVERSE_NEXT_SIBLING, ne_s_Move_NEXT_SIBLING_s_Move_TO_DOCUMENT, ne_s_Move_CONVERSE_NEXT_SIBLING_s_Move_CONVERSE_FIRST_CHILD]
    refine own_go (A := T198.setTop (mkF m 92 #[.val (.int p1), .val (.int (1 : Int32)), .val (.ref s_Move_NEXT_SIBLING), .val (.int (frm2 s_Move_NEXT_SIBLING s_Move_CONVERSE_FIRST_CHILD s_Move_CONVERSE_NEXT_SIBLING s_Move_TO_DOCUMENT)), .val (.ref s_Modality_NEXT_SIBLING), .val (.int (0 : Int32)), .val (.int (frm2 s_Move_CONVERSE_NEXT_SIBLING s_Move_CONVERSE_FIRST_CHILD s_Move_CONVERSE_NEXT_SIBLING s_Move_TO_DOCUMENT))] [(.int (0 : Int32)), (.int (frm2 s_Move_NEXT_SIBLING s_Move_CONVERSE_FIRST_CHILD s_Move_CONVERSE_NEXT_SIBLING s_Move_TO_DOCUMENT))])) (B := T198.setTop (mkF m 98 #[.val (.int p1), .val (.int (1 : Int32)), .val (.ref s_Move_NEXT_SIBLING), .val (.int (frm2 s_Move_NEXT_SIBLING s_Move_CONVERSE_FIRST_CHILD s_Move_CONVERSE_NEXT_SIBLING s_Move_TO_DOCUMENT)), .val (.ref s_Modality_NEXT_SIBLING), .val (.int (0 : Int32)), .val (.int (frm2 s_Move_CONVERSE_NEXT_SIBLING s_Move_CONVERSE_FIRST_CHILD s_Move_CONVERSE_NEXT_SIBLING s_Move_TO_DOCUMENT))] [(.int (frm2 s_Move_CONVERSE_NEXT_SIBLING s_Move_CONVERSE_FIRST_CHILD s_Move_CONVERSE_NEXT_SIBLING s_Move_TO_DOCUMENT)), (.int (frm2 s_Move_NEXT_SIBLING s_Move_CONVERSE_FIRST_CHILD s_Move_CONVERSE_NEXT_SIBLING s_Move_TO_DOCUMENT))])) (fun t k => ?_) ?_
    · show Steps p.tables e below (T198.setTop (mkF m 92 #[.val (.int p1), .val (.int (1 : Int32)), .val (.ref s_Move_NEXT_SIBLING), .val (.int (frm2 s_Move_NEXT_SIBLING s_Move_CONVERSE_FIRST_CHILD s_Move_CONVERSE_NEXT_SIBLING s_Move_TO_DOCUMENT)), .val (.ref s_Modality_NEXT_SIBLING), .val (.int (0 : Int32)), .val (.int (frm2 s_Move_CONVERSE_NEXT_SIBLING s_Move_CONVERSE_FIRST_CHILD s_Move_CONVERSE_NEXT_SIBLING s_Move_TO_DOCUMENT))] [(.int (0 : Int32)), (.int (frm2 s_Move_NEXT_SIBLING s_Move_CONVERSE_FIRST_CHILD s_Move_CONVERSE_NEXT_SIBLING s_Move_TO_DOCUMENT))])) _
      refine XS.icmpNo X198.here hx rfl (hb hby at_92) rfl (teq hc92_199).2 ?_
      show Steps p.tables e below (T198.setTop (mkF m 95 #[.val (.int p1), .val (.int (1 : Int32)), .val (.ref s_Move_NEXT_SIBLING), .val (.int (frm2 s_Move_NEXT_SIBLING s_Move_CONVERSE_FIRST_CHILD s_Move_CONVERSE_NEXT_SIBLING s_Move_TO_DOCUMENT)), .val (.ref s_Modality_NEXT_SIBLING), .val (.int (0 : Int32)), .val (.int (frm2 s_Move_CONVERSE_NEXT_SIBLING s_Move_CONVERSE_FIRST_CHILD s_Move_CONVERSE_NEXT_SIBLING s_Move_TO_DOCUMENT))] [])) _
      refine XS.iloadN X198.here hx rfl (hb hby at_95) rfl ?_
      show Steps p.tables e below (T198.setTop (mkF m 96 #[.val (.int p1), .val (.int (1 : Int32)), .val (.ref s_Move_NEXT_SIBLING), .val (.int (frm2 s_Move_NEXT_SIBLING s_Move_CONVERSE_FIRST_CHILD s_Move_CONVERSE_NEXT_SIBLING s_Move_TO_DOCUMENT)), .val (.ref s_Modality_NEXT_SIBLING), .val (.int (0 : Int32)), .val (.int (frm2 s_Move_CONVERSE_NEXT_SIBLING s_Move_CONVERSE_FIRST_CHILD s_Move_CONVERSE_NEXT_SIBLING s_Move_TO_DOCUMENT))] [(.int (frm2 s_Move_NEXT_SIBLING s_Move_CONVERSE_FIRST_CHILD s_Move_CONVERSE_NEXT_SIBLING s_Move_TO_DOCUMENT))])) _
      refine XS.iload X198.here hx rfl (hb hby at_96) rfl ?_
      exact k
    have hc98_200 : ¬ ((frm2 s_Move_NEXT_SIBLING s_Move_CONVERSE_FIRST_CHILD s_Move_CONVERSE_NEXT_SIBLING s_Move_TO_DOCUMENT) = (frm2 s_Move_CONVERSE_NEXT_SIBLING s_Move_CONVERSE_FIRST_CHILD s_Move_CONVERSE_NEXT_SIBLING s_Move_TO_DOCUMENT)) := by simp [frm2, ne_s_Move_NEXT_SIBLING_s_Move_CONVERSE_FIRST_CHILD, ne_s_Move_NEXT_SIBLING_s_Move_CONVERSE_NEXT_SIBLING, ne_s_Move_NEXT_SIBLING_s_Move_TO_DOCUMENT, ne_s_Move_CONVERSE_NEXT_SIBLING_s_Move_CONVERSE_FIRST_CHILD]
    refine own_go (A := T198.setTop (mkF m 98 #[.val (.int p1), .val (.int (1 : Int32)), .val (.ref s_Move_NEXT_SIBLING), .val (.int (frm2 s_Move_NEXT_SIBLING s_Move_CONVERSE_FIRST_CHILD s_Move_CONVERSE_NEXT_SIBLING s_Move_TO_DOCUMENT)), .val (.ref s_Modality_NEXT_SIBLING), .val (.int (0 : Int32)), .val (.int (frm2 s_Move_CONVERSE_NEXT_SIBLING s_Move_CONVERSE_FIRST_CHILD s_Move_CONVERSE_NEXT_SIBLING s_Move_TO_DOCUMENT))] [(.int (frm2 s_Move_CONVERSE_NEXT_SIBLING s_Move_CONVERSE_FIRST_CHILD s_Move_CONVERSE_NEXT_SIBLING s_Move_TO_DOCUMENT)), (.int (frm2 s_Move_NEXT_SIBLING s_Move_CONVERSE_FIRST_CHILD s_Move_CONVERSE_NEXT_SIBLING s_Move_TO_DOCUMENT))])) (B := T198.setTop (mkF m 106 #[.val (.int p1), .val (.int (1 : Int32)), .val (.ref s_Move_NEXT_SIBLING), .val (.int (frm2 s_Move_NEXT_SIBLING s_Move_CONVERSE_FIRST_CHILD s_Move_CONVERSE_NEXT_SIBLING s_Move_TO_DOCUMENT)), .val (.ref s_Modality_NEXT_SIBLING), .val (.int (0 : Int32)), .val (.int (frm2 s_Move_CONVERSE_NEXT_SIBLING s_Move_CONVERSE_FIRST_CHILD s_Move_CONVERSE_NEXT_SIBLING s_Move_TO_DOCUMENT))] [(.int (1 : Int32))])) (fun t k => ?_) ?_
    · show Steps p.tables e below (T198.setTop (mkF m 98 #[.val (.int p1), .val (.int (1 : Int32)), .val (.ref s_Move_NEXT_SIBLING), .val (.int (frm2 s_Move_NEXT_SIBLING s_Move_CONVERSE_FIRST_CHILD s_Move_CONVERSE_NEXT_SIBLING s_Move_TO_DOCUMENT)), .val (.ref s_Modality_NEXT_SIBLING), .val (.int (0 : Int32)), .val (.int (frm2 s_Move_CONVERSE_NEXT_SIBLING s_Move_CONVERSE_FIRST_CHILD s_Move_CONVERSE_NEXT_SIBLING s_Move_TO_DOCUMENT))] [(.int (frm2 s_Move_CONVERSE_NEXT_SIBLING s_Move_CONVERSE_FIRST_CHILD s_Move_CONVERSE_NEXT_SIBLING s_Move_TO_DOCUMENT)), (.int (frm2 s_Move_NEXT_SIBLING s_Move_CONVERSE_FIRST_CHILD s_Move_CONVERSE_NEXT_SIBLING s_Move_TO_DOCUMENT))])) _
      refine XS.icmpNo X198.here hx rfl (hb hby at_98) rfl (feq hc98_200).1 ?_
      show Steps p.tables e below (T198.setTop (mkF m 101 #[.val (.int p1), .val (.int (1 : Int32)), .val (.ref s_Move_NEXT_SIBLING), .val (.int (frm2 s_Move_NEXT_SIBLING s_Move_CONVERSE_FIRST_CHILD s_Move_CONVERSE_NEXT_SIBLING s_Move_TO_DOCUMENT)), .val (.ref s_Modality_NEXT_SIBLING), .val (.int (0 : Int32)), .val (.int (frm2 s_Move_CONVERSE_NEXT_SIBLING s_Move_CONVERSE_FIRST_CHILD s_Move_CONVERSE_NEXT_SIBLING s_Move_TO_DOCUMENT))] [])) _
      refine XS.iconst X198.here hx rfl (hb hby at_101) ?_
      show Steps p.tables e below (T198.setTop (mkF m 102 #[.val (.int p1), .val (.int (1 : Int32)), .val (.ref s_Move_NEXT_SIBLING), .val (.int (frm2 s_Move_NEXT_SIBLING s_Move_CONVERSE_FIRST_CHILD s_Move_CONVERSE_NEXT_SIBLING s_Move_TO_DOCUMENT)), .val (.ref s_Modality_NEXT_SIBLING), .val (.int (0 : Int32)), .val (.int (frm2 s_Move_CONVERSE_NEXT_SIBLING s_Move_CONVERSE_FIRST_CHILD s_Move_CONVERSE_NEXT_SIBLING s_Move_TO_DOCUMENT))] [(.int (1 : Int32))])) _
      refine XS.goto X198.here hx rfl (pc0 := 102) (pc' := 106) rfl (hb hby at_102) (by decide) (by decide) ?_
      exact k
    obtain ⟨fs, hr, hrun, hended, hW, hsame⟩ := X198.leave (v := some (.int (1 : Int32))) (fun h => by rw [Bd.returns] at h; cases h)
    refine ⟨_, _, ?_, hrun, hended, _, _, rfl, ?_, ⟨_, rfl⟩, hW, hsame.mono (by decide) (by decide)⟩
    · show Steps p.tables e below (T198.setTop (mkF m 106 #[.val (.int p1), .val (.int (1 : Int32)), .val (.ref s_Move_NEXT_SIBLING), .val (.int (frm2 s_Move_NEXT_SIBLING s_Move_CONVERSE_FIRST_CHILD s_Move_CONVERSE_NEXT_SIBLING s_Move_TO_DOCUMENT)), .val (.ref s_Modality_NEXT_SIBLING), .val (.int (0 : Int32)), .val (.int (frm2 s_Move_CONVERSE_NEXT_SIBLING s_Move_CONVERSE_FIRST_CHILD s_Move_CONVERSE_NEXT_SIBLING s_Move_TO_DOCUMENT))] [(.int (1 : Int32))])) _
      exact retN X198 hx (t := .boolean) Bd.returns (by simp) (hb hby at_106) hr
    · show Qrm0N Z p1 cs s_Move_FIRST_CHILD s_Move_NEXT_SIBLING s_Move_CONVERSE_FIRST_CHILD s_Move_CONVERSE_NEXT_SIBLING s_Move_TO_DOCUMENT s_Move_FROM_DOCUMENT s_Modality_FIRST_CHILD t0 v0 kk0 s_Modality_NEXT_SIBLING t1 v1 kk1 s_Modality_CONVERSE_FIRST_CHILD t2 v2 kk2 s_Modality_CONVERSE_NEXT_SIBLING t3 v3 kk3 h0 n0 _ T198.heap _
      rw [e198]
      exact ⟨rfl, N198⟩
  · rw [hk176]
    refine own_go (A := s₁.setTop (mkF m 7 #[.val (.int p1), .unset, .unset, .unset, .unset, .unset, .unset] [(.int (2 : Int32))])) (B := s₁.setTop (mkF m 9 #[.val (.int p1), .val (.int (2 : Int32)), .unset, .unset, .unset, .unset, .unset] [(.int (2 : Int32))])) (fun t k => ?_) ?_
    · show Steps p.tables e below (s₁.setTop (mkF m 7 #[.val (.int p1), .unset, .unset, .unset, .unset, .unset, .unset] [(.int (2 : Int32))])) _
      refine XS.istoreN X0.here hx rfl (hb hby at_7) rfl (l' := #[.val (.int p1), .val (.int (2 : Int32)), .unset, .unset, .unset, .unset, .unset]) rfl ?_
      show Steps p.tables e below (s₁.setTop (mkF m 8 #[.val (.int p1), .val (.int (2 : Int32)), .unset, .unset, .unset, .unset, .unset] [])) _
      refine XS.iloadN X0.here hx rfl (hb hby at_8) rfl ?_
      exact k
    obtain ⟨_, _, ⟨T201, L201, k201, n201⟩, -, X201, ⟨Lc201, hQ201, l201, y201, z201⟩, st201⟩ := Jvm.LawKit.callS X0 hx (y := (⟨"com/example/decider/decider/library/xpath/MoveUpwardPinLaw", "pick", "(I)Lcom/example/decider/decider/library/xpath/Move;"⟩ : MethodName)) hown (mvT hZ (hw _ (List.mem_of_getElem? (i := 1) rfl))) (mvT hZ (hw _ (List.mem_of_getElem? (i := 2) rfl))) (mvT hZ (hw _ (List.mem_of_getElem? (i := 3) rfl))) (mvT hZ (hw _ (List.mem_of_getElem? (i := 4) rfl))) (by decide) (backOf (W := 0) (rm1_2 l Z a0 hw [] s_Move_CONVERSE_FIRST_CHILD h0 n0 Z0 P10) hZ (hw _ (List.mem_of_getElem? (i := 4) rfl)) (hw _ (List.mem_of_getElem? (i := 3) rfl)) (by decide) (by decide)) (g := (mkF m 9 #[.val (.int p1), .val (.int (2 : Int32)), .unset, .unset, .unset, .unset, .unset] [(.int (2 : Int32))])) rfl (by rw [hml]; rfl) (argsL := [(.int (2 : Int32))]) (rest := []) (lenOf pd_6 rfl) rfl (by show 2 * 0 + _ ≤ _; exact Nat.le_of_eq rfl) (hb hby at_9) (fun _ _ => ⟨rfl, e0, (by decide : 0 + 0 ≤ _), (by decide : 0 + 0 ≤ _)⟩)
    dsimp only [Pt.U, Pt.locs, Pt.cells, Pt.slots] at X201 l201 y201 z201 st201 hQ201
    subst l201 y201 z201
    obtain ⟨rfl, Nq201, e201⟩ := hQ201
    have N201 := Fr.app N0 Nq201
    refine own_go (A := _) (B := T201.setTop (mkF m 12 #[.val (.int p1), .val (.int (2 : Int32)), .unset, .unset, .unset, .unset, .unset] [(.ref s_Move_CONVERSE_FIRST_CHILD)])) st201 ?_
    refine own_go (A := T201.setTop (mkF m 12 #[.val (.int p1), .val (.int (2 : Int32)), .unset, .unset, .unset, .unset, .unset] [(.ref s_Move_CONVERSE_FIRST_CHILD)])) (B := T201.setTop (mkF m 14 #[.val (.int p1), .val (.int (2 : Int32)), .val (.ref s_Move_CONVERSE_FIRST_CHILD), .unset, .unset, .unset, .unset] [(.ref s_Move_CONVERSE_FIRST_CHILD)])) (fun t k => ?_) ?_
    · show Steps p.tables e below (T201.setTop (mkF m 12 #[.val (.int p1), .val (.int (2 : Int32)), .unset, .unset, .unset, .unset, .unset] [(.ref s_Move_CONVERSE_FIRST_CHILD)])) _
      refine XS.astoreN X201.here hx rfl (hb hby at_12) rfl rfl (l' := #[.val (.int p1), .val (.int (2 : Int32)), .val (.ref s_Move_CONVERSE_FIRST_CHILD), .unset, .unset, .unset, .unset]) rfl ?_
      show Steps p.tables e below (T201.setTop (mkF m 13 #[.val (.int p1), .val (.int (2 : Int32)), .val (.ref s_Move_CONVERSE_FIRST_CHILD), .unset, .unset, .unset, .unset] [])) _
      refine XS.aloadN X201.here hx rfl (hb hby at_13) rfl rfl ?_
      exact k
    obtain ⟨cq202, kq202, q202a, q202b, q202c⟩ := isOf hZ e201 P11
    obtain ⟨_, _, ⟨T202, L202, k202, n202⟩, -, X202, ⟨Lc202, hQ202, l202, y202, z202⟩, st202⟩ := X201.virtualBack hx (y := (⟨"com/example/decider/decider/library/xpath/Move", "upward", "()Z"⟩ : MethodName)) (z := (⟨"com/example/decider/decider/library/xpath/Move", "upward", "()Z"⟩ : MethodName)) hown (mvT hZ (hw _ (List.mem_of_getElem? (i := 8) rfl))) (mvT hZ (hw _ (List.mem_of_getElem? (i := 9) rfl))) (notFace_of_selects (args := #[]) (mvT hZ (hw _ (List.mem_of_getElem? (i := 11) rfl)))) (mvT hZ (hw _ (List.mem_of_getElem? (i := 11) rfl))) (mvT hZ (hw _ (List.mem_of_getElem? (i := 10) rfl))) (by decide) (backOf (W := 0) (rm2 l Z a0 hw [] s_Move_CONVERSE_FIRST_CHILD s_Move_CONVERSE_FIRST_CHILD s_Move_CONVERSE_NEXT_SIBLING s_Move_TO_DOCUMENT h0 n0 Z0 P10 P14 P18) hZ (hw _ (List.mem_of_getElem? (i := 12) rfl)) (hw _ (List.mem_of_getElem? (i := 6) rfl)) (by decide) (by decide)) q202a q202c (g := (mkF m 14 #[.val (.int p1), .val (.int (2 : Int32)), .val (.ref s_Move_CONVERSE_FIRST_CHILD), .unset, .unset, .unset, .unset] [(.ref s_Move_CONVERSE_FIRST_CHILD)])) rfl (by rw [hml]; rfl) (Steps.refl _) (argsL := []) (rest := []) (lenOf pd_4 rfl) rfl (by show 2 * 0 + _ ≤ _; exact Nat.le_of_eq rfl) (hb hby at_14) (fun _ _ => ⟨rfl, e201, (by decide : 0 + 0 ≤ _), (by decide : 0 + 0 ≤ _)⟩)
    dsimp only [Pt.U, Pt.locs, Pt.cells, Pt.slots] at X202 l202 y202 z202 st202 hQ202
    subst l202 y202 z202
    obtain ⟨rfl, Nq202, e202⟩ := hQ202
    have N202 := Fr.app N201 Nq202
    refine own_go (A := _) (B := T202.setTop (mkF m 17 #[.val (.int p1), .val (.int (2 : Int32)), .val (.ref s_Move_CONVERSE_FIRST_CHILD), .unset, .unset, .unset, .unset] [(.int (frm2 s_Move_CONVERSE_FIRST_CHILD s_Move_CONVERSE_FIRST_CHILD s_Move_CONVERSE_NEXT_SIBLING s_Move_TO_DOCUMENT))])) (fun t k => st202.trans k) ?_
    refine own_go (A := T202.setTop (mkF m 17 #[.val (.int p1), .val (.int (2 : Int32)), .val (.ref s_Move_CONVERSE_FIRST_CHILD), .unset, .unset, .unset, .unset] [(.int (frm2 s_Move_CONVERSE_FIRST_CHILD s_Move_CONVERSE_FIRST_CHILD s_Move_CONVERSE_NEXT_SIBLING s_Move_TO_DOCUMENT))])) (B := T202.setTop (mkF m 19 #[.val (.int p1), .val (.int (2 : Int32)), .val (.ref s_Move_CONVERSE_FIRST_CHILD), .val (.int (frm2 s_Move_CONVERSE_FIRST_CHILD s_Move_CONVERSE_FIRST_CHILD s_Move_CONVERSE_NEXT_SIBLING s_Move_TO_DOCUMENT)), .unset, .unset, .unset] [(.ref s_Move_CONVERSE_FIRST_CHILD)])) (fun t k => ?_) ?_
    · show Steps p.tables e below (T202.setTop (mkF m 17 #[.val (.int p1), .val (.int (2 : Int32)), .val (.ref s_Move_CONVERSE_FIRST_CHILD), .unset, .unset, .unset, .unset] [(.int (frm2 s_Move_CONVERSE_FIRST_CHILD s_Move_CONVERSE_FIRST_CHILD s_Move_CONVERSE_NEXT_SIBLING s_Move_TO_DOCUMENT))])) _
      refine XS.istoreN X202.here hx rfl (hb hby at_17) rfl (l' := #[.val (.int p1), .val (.int (2 : Int32)), .val (.ref s_Move_CONVERSE_FIRST_CHILD), .val (.int (frm2 s_Move_CONVERSE_FIRST_CHILD s_Move_CONVERSE_FIRST_CHILD s_Move_CONVERSE_NEXT_SIBLING s_Move_TO_DOCUMENT)), .unset, .unset, .unset]) rfl ?_
      show Steps p.tables e below (T202.setTop (mkF m 18 #[.val (.int p1), .val (.int (2 : Int32)), .val (.ref s_Move_CONVERSE_FIRST_CHILD), .val (.int (frm2 s_Move_CONVERSE_FIRST_CHILD s_Move_CONVERSE_FIRST_CHILD s_Move_CONVERSE_NEXT_SIBLING s_Move_TO_DOCUMENT)), .unset, .unset, .unset] [])) _
      refine XS.aloadN X202.here hx rfl (hb hby at_18) rfl rfl ?_
      exact k
    obtain ⟨cq203, kq203, q203a, q203b, q203c⟩ := isOf hZ e202 P11
    obtain ⟨_, _, ⟨T203, L203, k203, n203⟩, -, X203, ⟨Lc203, hQ203, l203, y203, z203⟩, st203⟩ := X202.virtualBack hx (y := (⟨"com/example/decider/decider/library/xpath/Move", "modality", "()Lcom/example/decider/decider/logic/formula/Modality;"⟩ : MethodName)) (z := (⟨"com/example/decider/decider/library/xpath/Move", "modality", "()Lcom/example/decider/decider/logic/formula/Modality;"⟩ : MethodName)) hown (mvT hZ (hw _ (List.mem_of_getElem? (i := 19) rfl))) (mvT hZ (hw _ (List.mem_of_getElem? (i := 20) rfl))) (notFace_of_selects (args := #[]) (mvT hZ (hw _ (List.mem_of_getElem? (i := 22) rfl)))) (mvT hZ (hw _ (List.mem_of_getElem? (i := 22) rfl))) (mvT hZ (hw _ (List.mem_of_getElem? (i := 21) rfl))) (by decide) (backOf (W := 0) (rm3 l Z a0 hw [] s_Move_CONVERSE_FIRST_CHILD s_Modality_CONVERSE_FIRST_CHILD h0 n0 Z0 P13) hZ (hw _ (List.mem_of_getElem? (i := 23) rfl)) (hw _ (List.mem_of_getElem? (i := 6) rfl)) (by decide) (by decide)) q203a q203c (g := (mkF m 19 #[.val (.int p1), .val (.int (2 : Int32)), .val (.ref s_Move_CONVERSE_FIRST_CHILD), .val (.int (frm2 s_Move_CONVERSE_FIRST_CHILD s_Move_CONVERSE_FIRST_CHILD s_Move_CONVERSE_NEXT_SIBLING s_Move_TO_DOCUMENT)), .unset, .unset, .unset] [(.ref s_Move_CONVERSE_FIRST_CHILD)])) rfl (by rw [hml]; rfl) (Steps.refl _) (argsL := []) (rest := []) (lenOf pd_7 rfl) rfl (by show 2 * 0 + _ ≤ _; exact Nat.le_of_eq rfl) (hb hby at_19) (fun _ _ => ⟨rfl, e202, (by decide : 0 + 0 ≤ _), (by decide : 0 + 0 ≤ _)⟩)
    dsimp only [Pt.U, Pt.locs, Pt.cells, Pt.slots] at X203 l203 y203 z203 st203 hQ203
    subst l203 y203 z203
    obtain ⟨rfl, Nq203, e203⟩ := hQ203
    have N203 := Fr.app N202 Nq203
    refine own_go (A := _) (B := T203.setTop (mkF m 22 #[.val (.int p1), .val (.int (2 : Int32)), .val (.ref s_Move_CONVERSE_FIRST_CHILD), .val (.int (frm2 s_Move_CONVERSE_FIRST_CHILD s_Move_CONVERSE_FIRST_CHILD s_Move_CONVERSE_NEXT_SIBLING s_Move_TO_DOCUMENT)), .unset, .unset, .unset] [(.ref s_Modality_CONVERSE_FIRST_CHILD)])) (fun t k => st203.trans k) ?_
    refine own_go (A := T203.setTop (mkF m 22 #[.val (.int p1), .val (.int (2 : Int32)), .val (.ref s_Move_CONVERSE_FIRST_CHILD), .val (.int (frm2 s_Move_CONVERSE_FIRST_CHILD s_Move_CONVERSE_FIRST_CHILD s_Move_CONVERSE_NEXT_SIBLING s_Move_TO_DOCUMENT)), .unset, .unset, .unset] [(.ref s_Modality_CONVERSE_FIRST_CHILD)])) (B := T203.setTop (mkF m 31 #[.val (.int p1), .val (.int (2 : Int32)), .val (.ref s_Move_CONVERSE_FIRST_CHILD), .val (.int (frm2 s_Move_CONVERSE_FIRST_CHILD s_Move_CONVERSE_FIRST_CHILD s_Move_CONVERSE_NEXT_SIBLING s_Move_TO_DOCUMENT)), .val (.ref s_Modality_CONVERSE_FIRST_CHILD), .unset, .unset] [(.ref s_Modality_CONVERSE_FIRST_CHILD)])) (fun t k => ?_) ?_
    · show Steps p.tables e below (T203.setTop (mkF m 22 #[.val (.int p1), .val (.int (2 : Int32)), .val (.ref s_Move_CONVERSE_FIRST_CHILD), .val (.int (frm2 s_Move_CONVERSE_FIRST_CHILD s_Move_CONVERSE_FIRST_CHILD s_Move_CONVERSE_NEXT_SIBLING s_Move_TO_DOCUMENT)), .unset, .unset, .unset] [(.ref s_Modality_CONVERSE_FIRST_CHILD)])) _
      refine XS.astore X203.here hx rfl (hb hby at_22) rfl rfl (l' := #[.val (.int p1), .val (.int (2 : Int32)), .val (.ref s_Move_CONVERSE_FIRST_CHILD), .val (.int (frm2 s_Move_CONVERSE_FIRST_CHILD s_Move_CONVERSE_FIRST_CHILD s_Move_CONVERSE_NEXT_SIBLING s_Move_TO_DOCUMENT)), .val (.ref s_Modality_CONVERSE_FIRST_CHILD), .unset, .unset]) rfl ?_
      show Steps p.tables e below (T203.setTop (mkF m 24 #[.val (.int p1), .val (.int (2 : Int32)), .val (.ref s_Move_CONVERSE_FIRST_CHILD), .val (.int (frm2 s_Move_CONVERSE_FIRST_CHILD s_Move_CONVERSE_FIRST_CHILD s_Move_CONVERSE_NEXT_SIBLING s_Move_TO_DOCUMENT)), .val (.ref s_Modality_CONVERSE_FIRST_CHILD), .unset, .unset] [])) _
      refine XS.aload X203.here hx rfl (hb hby at_24) rfl rfl ?_
      show Steps p.tables e below (T203.setTop (mkF m 26 #[.val (.int p1), .val (.int (2 : Int32)), .val (.ref s_Move_CONVERSE_FIRST_CHILD), .val (.int (frm2 s_Move_CONVERSE_FIRST_CHILD s_Move_CONVERSE_FIRST_CHILD s_Move_CONVERSE_NEXT_SIBLING s_Move_TO_DOCUMENT)), .val (.ref s_Modality_CONVERSE_FIRST_CHILD), .unset, .unset] [(.ref s_Modality_CONVERSE_FIRST_CHILD)])) _
      refine XS.ifnullNo X203.here hx rfl (hb hby at_26) rfl ?_
      show Steps p.tables e below (T203.setTop (mkF m 29 #[.val (.int p1), .val (.int (2 : Int32)), .val (.ref s_Move_CONVERSE_FIRST_CHILD), .val (.int (frm2 s_Move_CONVERSE_FIRST_CHILD s_Move_CONVERSE_FIRST_CHILD s_Move_CONVERSE_NEXT_SIBLING s_Move_TO_DOCUMENT)), .val (.ref s_Modality_CONVERSE_FIRST_CHILD), .unset, .unset] [])) _
      refine XS.aload X203.here hx rfl (hb hby at_29) rfl rfl ?_
      exact k
    obtain ⟨cq204, kq204, q204a, q204b, q204c⟩ := isOf hZ e203 P38
    obtain ⟨_, _, ⟨T204, L204, k204, n204⟩, -, X204, ⟨Lc204, hQ204, l204, y204, z204⟩, st204⟩ := X203.virtualBack hx (y := (⟨"com/example/decider/decider/logic/formula/Modality", "spelling", "()Ljava/lang/String;"⟩ : MethodName)) (z := (⟨"com/example/decider/decider/logic/formula/Modality", "spelling", "()Ljava/lang/String;"⟩ : MethodName)) hown (mvT hZ (hw _ (List.mem_of_getElem? (i := 28) rfl))) (mvT hZ (hw _ (List.mem_of_getElem? (i := 29) rfl))) (notFace_of_selects (args := #[]) (mvT hZ (hw _ (List.mem_of_getElem? (i := 31) rfl)))) (mvT hZ (hw _ (List.mem_of_getElem? (i := 31) rfl))) (mvT hZ (hw _ (List.mem_of_getElem? (i := 30) rfl))) (by decide) (backOf (W := 0) (rm4 l Z a0 hw [] s_Modality_CONVERSE_FIRST_CHILD t2 h0 n0 Z0 P39) hZ (hw _ (List.mem_of_getElem? (i := 32) rfl)) (hw _ (List.mem_of_getElem? (i := 26) rfl)) (by decide) (by decide)) q204a q204c (g := (mkF m 31 #[.val (.int p1), .val (.int (2 : Int32)), .val (.ref s_Move_CONVERSE_FIRST_CHILD), .val (.int (frm2 s_Move_CONVERSE_FIRST_CHILD s_Move_CONVERSE_FIRST_CHILD s_Move_CONVERSE_NEXT_SIBLING s_Move_TO_DOCUMENT)), .val (.ref s_Modality_CONVERSE_FIRST_CHILD), .unset, .unset] [(.ref s_Modality_CONVERSE_FIRST_CHILD)])) rfl (by rw [hml]; rfl) (Steps.refl _) (argsL := []) (rest := []) (lenOf pd_8 rfl) rfl (by show 2 * 0 + _ ≤ _; exact Nat.le_of_eq rfl) (hb hby at_31) (fun _ _ => ⟨rfl, e203, (by decide : 0 + 0 ≤ _), (by decide : 0 + 0 ≤ _)⟩)
    dsimp only [Pt.U, Pt.locs, Pt.cells, Pt.slots] at X204 l204 y204 z204 st204 hQ204
    subst l204 y204 z204
    obtain ⟨rfl, Nq204, e204⟩ := hQ204
    have N204 := Fr.app N203 Nq204
    refine own_go (A := _) (B := T204.setTop (mkF m 34 #[.val (.int p1), .val (.int (2 : Int32)), .val (.ref s_Move_CONVERSE_FIRST_CHILD), .val (.int (frm2 s_Move_CONVERSE_FIRST_CHILD s_Move_CONVERSE_FIRST_CHILD s_Move_CONVERSE_NEXT_SIBLING s_Move_TO_DOCUMENT)), .val (.ref s_Modality_CONVERSE_FIRST_CHILD), .unset, .unset] [(.ref t2)])) (fun t k => st204.trans k) ?_
    refine own_go (A := T204.setTop (mkF m 34 #[.val (.int p1), .val (.int (2 : Int32)), .val (.ref s_Move_CONVERSE_FIRST_CHILD), .val (.int (frm2 s_Move_CONVERSE_FIRST_CHILD s_Move_CONVERSE_FIRST_CHILD s_Move_CONVERSE_NEXT_SIBLING s_Move_TO_DOCUMENT)), .val (.ref s_Modality_CONVERSE_FIRST_CHILD), .unset, .unset] [(.ref t2)])) (B := T204.setTop (mkF m 38 #[.val (.int p1), .val (.int (2 : Int32)), .val (.ref s_Move_CONVERSE_FIRST_CHILD), .val (.int (frm2 s_Move_CONVERSE_FIRST_CHILD s_Move_CONVERSE_FIRST_CHILD s_Move_CONVERSE_NEXT_SIBLING s_Move_TO_DOCUMENT)), .val (.ref s_Modality_CONVERSE_FIRST_CHILD), .unset, .val (.ref t2)] [(.ref t2)])) (fun t k => ?_) ?_
    · show Steps p.tables e below (T204.setTop (mkF m 34 #[.val (.int p1), .val (.int (2 : Int32)), .val (.ref s_Move_CONVERSE_FIRST_CHILD), .val (.int (frm2 s_Move_CONVERSE_FIRST_CHILD s_Move_CONVERSE_FIRST_CHILD s_Move_CONVERSE_NEXT_SIBLING s_Move_TO_DOCUMENT)), .val (.ref s_Modality_CONVERSE_FIRST_CHILD), .unset, .unset] [(.ref t2)])) _
      refine XS.astore X204.here hx rfl (hb hby at_34) rfl rfl (l' := #[.val (.int p1), .val (.int (2 : Int32)), .val (.ref s_Move_CONVERSE_FIRST_CHILD), .val (.int (frm2 s_Move_CONVERSE_FIRST_CHILD s_Move_CONVERSE_FIRST_CHILD s_Move_CONVERSE_NEXT_SIBLING s_Move_TO_DOCUMENT)), .val (.ref s_Modality_CONVERSE_FIRST_CHILD), .unset, .val (.ref t2)]) rfl ?_
      show Steps p.tables e below (T204.setTop (mkF m 36 #[.val (.int p1), .val (.int (2 : Int32)), .val (.ref s_Move_CONVERSE_FIRST_CHILD), .val (.int (frm2 s_Move_CONVERSE_FIRST_CHILD s_Move_CONVERSE_FIRST_CHILD s_Move_CONVERSE_NEXT_SIBLING s_Move_TO_DOCUMENT)), .val (.ref s_Modality_CONVERSE_FIRST_CHILD), .unset, .val (.ref t2)] [])) _
      refine XS.aload X204.here hx rfl (hb hby at_36) rfl rfl ?_
      exact k
    obtain ⟨cq205, kq205, q205a, q205b, q205c⟩ := isOf hZ e204 P40
    obtain ⟨_, _, ⟨T205, L205, k205, n205⟩, -, X205, ⟨Lc205, hQ205, l205, y205, z205⟩, st205⟩ := X204.virtualBack hx (y := (⟨"java/lang/String", "length", "()I"⟩ : MethodName)) (z := (⟨"java/lang/String", "length", "()I"⟩ : MethodName)) hown (mvT hZ (hw _ (List.mem_of_getElem? (i := 35) rfl))) (mvT hZ (hw _ (List.mem_of_getElem? (i := 36) rfl))) (notFace_of_selects (args := #[]) (mvT hZ (hw _ (List.mem_of_getElem? (i := 38) rfl)))) (mvT hZ (hw _ (List.mem_of_getElem? (i := 38) rfl))) (mvT hZ (hw _ (List.mem_of_getElem? (i := 37) rfl))) (by decide) (backOf (W := 0) (rm5_4 l Z a0 hw [] t2 cs (60 : Int32) (45 : Int32) (49 : Int32) (62 : Int32) v2 kk2 h0 n0 Z0 P40 P0 P42 P41 P43 hcs) hZ (hw _ (List.mem_of_getElem? (i := 40) rfl)) (hw _ (List.mem_of_getElem? (i := 39) rfl)) (by decide) (by decide)) q205a q205c (g := (mkF m 38 #[.val (.int p1), .val (.int (2 : Int32)), .val (.ref s_Move_CONVERSE_FIRST_CHILD), .val (.int (frm2 s_Move_CONVERSE_FIRST_CHILD s_Move_CONVERSE_FIRST_CHILD s_Move_CONVERSE_NEXT_SIBLING s_Move_TO_DOCUMENT)), .val (.ref s_Modality_CONVERSE_FIRST_CHILD), .unset, .val (.ref t2)] [(.ref t2)])) rfl (by rw [hml]; rfl) (Steps.refl _) (argsL := []) (rest := []) (lenOf pd_0 rfl) rfl (by show 2 * 0 + _ ≤ _; exact Nat.le_of_eq rfl) (hb hby at_38) (fun _ _ => ⟨rfl, e204, (by decide : 0 + 0 ≤ _), (by decide : 0 + 0 ≤ _)⟩)
    dsimp only [Pt.U, Pt.locs, Pt.cells, Pt.slots] at X205 l205 y205 z205 st205 hQ205
    subst l205 y205 z205
    obtain ⟨rfl, Nq205, e205⟩ := hQ205
    have N205 := Fr.app N204 Nq205
    refine own_go (A := _) (B := T205.setTop (mkF m 41 #[.val (.int p1), .val (.int (2 : Int32)), .val (.ref s_Move_CONVERSE_FIRST_CHILD), .val (.int (frm2 s_Move_CONVERSE_FIRST_CHILD s_Move_CONVERSE_FIRST_CHILD s_Move_CONVERSE_NEXT_SIBLING s_Move_TO_DOCUMENT)), .val (.ref s_Modality_CONVERSE_FIRST_CHILD), .unset, .val (.ref t2)] [(.int (4 : Int32))])) (fun t k => st205.trans k) ?_
    refine own_go (A := T205.setTop (mkF m 41 #[.val (.int p1), .val (.int (2 : Int32)), .val (.ref s_Move_CONVERSE_FIRST_CHILD), .val (.int (frm2 s_Move_CONVERSE_FIRST_CHILD s_Move_CONVERSE_FIRST_CHILD s_Move_CONVERSE_NEXT_SIBLING s_Move_TO_DOCUMENT)), .val (.ref s_Modality_CONVERSE_FIRST_CHILD), .unset, .val (.ref t2)] [(.int (4 : Int32))])) (B := T205.setTop (mkF m 48 #[.val (.int p1), .val (.int (2 : Int32)), .val (.ref s_Move_CONVERSE_FIRST_CHILD), .val (.int (frm2 s_Move_CONVERSE_FIRST_CHILD s_Move_CONVERSE_FIRST_CHILD s_Move_CONVERSE_NEXT_SIBLING s_Move_TO_DOCUMENT)), .val (.ref s_Modality_CONVERSE_FIRST_CHILD), .unset, .val (.ref t2)] [(.int (1 : Int32)), (.ref t2)])) (fun t k => ?_) ?_
    · show Steps p.tables e below (T205.setTop (mkF m 41 #[.val (.int p1), .val (.int (2 : Int32)), .val (.ref s_Move_CONVERSE_FIRST_CHILD), .val (.int (frm2 s_Move_CONVERSE_FIRST_CHILD s_Move_CONVERSE_FIRST_CHILD s_Move_CONVERSE_NEXT_SIBLING s_Move_TO_DOCUMENT)), .val (.ref s_Modality_CONVERSE_FIRST_CHILD), .unset, .val (.ref t2)] [(.int (4 : Int32))])) _
      refine XS.iconst X205.here hx rfl (hb hby at_41) ?_
      show Steps p.tables e below (T205.setTop (mkF m 42 #[.val (.int p1), .val (.int (2 : Int32)), .val (.ref s_Move_CONVERSE_FIRST_CHILD), .val (.int (frm2 s_Move_CONVERSE_FIRST_CHILD s_Move_CONVERSE_FIRST_CHILD s_Move_CONVERSE_NEXT_SIBLING s_Move_TO_DOCUMENT)), .val (.ref s_Modality_CONVERSE_FIRST_CHILD), .unset, .val (.ref t2)] [(.int (1 : Int32)), (.int (4 : Int32))])) _
      refine XS.icmpNo X205.here hx rfl (hb hby at_42) rfl (tlt (by decide : ((1 : Int32) < (4 : Int32)))).2.2.2 ?_
      show Steps p.tables e below (T205.setTop (mkF m 45 #[.val (.int p1), .val (.int (2 : Int32)), .val (.ref s_Move_CONVERSE_FIRST_CHILD), .val (.int (frm2 s_Move_CONVERSE_FIRST_CHILD s_Move_CONVERSE_FIRST_CHILD s_Move_CONVERSE_NEXT_SIBLING s_Move_TO_DOCUMENT)), .val (.ref s_Modality_CONVERSE_FIRST_CHILD), .unset, .val (.ref t2)] [])) _
      refine XS.aload X205.here hx rfl (hb hby at_45) rfl rfl ?_
      show Steps p.tables e below (T205.setTop (mkF m 47 #[.val (.int p1), .val (.int (2 : Int32)), .val (.ref s_Move_CONVERSE_FIRST_CHILD), .val (.int (frm2 s_Move_CONVERSE_FIRST_CHILD s_Move_CONVERSE_FIRST_CHILD s_Move_CONVERSE_NEXT_SIBLING s_Move_TO_DOCUMENT)), .val (.ref s_Modality_CONVERSE_FIRST_CHILD), .unset, .val (.ref t2)] [(.ref t2)])) _
      refine XS.iconst X205.here hx rfl (hb hby at_47) ?_
      exact k
    obtain ⟨cq207, kq207, q207a, q207b, q207c⟩ := isOf hZ e205 P40
    obtain ⟨_, _, ⟨T207, L207, k207, n207⟩, -, X207, ⟨Lc207, hQ207, l207, y207, z207⟩, st207⟩ := X205.virtualBack hx (y := (⟨"java/lang/String", "charAt", "(I)C"⟩ : MethodName)) (z := (⟨"java/lang/String", "charAt", "(I)C"⟩ : MethodName)) hown (mvT hZ (hw _ (List.mem_of_getElem? (i := 51) rfl))) (mvT hZ (hw _ (List.mem_of_getElem? (i := 52) rfl))) (notFace_of_selects (args := #[]) (mvT hZ (hw _ (List.mem_of_getElem? (i := 54) rfl)))) (mvT hZ (hw _ (List.mem_of_getElem? (i := 54) rfl))) (mvT hZ (hw _ (List.mem_of_getElem? (i := 53) rfl))) (by decide) (backOf (W := 0) (rm7_4N l Z a0 hw [] t2 cs (60 : Int32) (45 : Int32) (49 : Int32) (62 : Int32) v2 kk2 h0 n0 Z0 P40 P0 P1 P42 P41 P43 hcs) hZ (hw _ (List.mem_of_getElem? (i := 55) rfl)) (hw _ (List.mem_of_getElem? (i := 39) rfl)) (by decide) (by decide)) q207a q207c (g := (mkF m 48 #[.val (.int p1), .val (.int (2 : Int32)), .val (.ref s_Move_CONVERSE_FIRST_CHILD), .val (.int (frm2 s_Move_CONVERSE_FIRST_CHILD s_Move_CONVERSE_FIRST_CHILD s_Move_CONVERSE_NEXT_SIBLING s_Move_TO_DOCUMENT)), .val (.ref s_Modality_CONVERSE_FIRST_CHILD), .unset, .val (.ref t2)] [(.int (1 : Int32)), (.ref t2)])) rfl (by rw [hml]; rfl) (Steps.refl _) (argsL := [(.int (1 : Int32))]) (rest := []) (lenOf pd_9 rfl) rfl (by show 2 * 0 + _ ≤ _; exact Nat.le_of_eq rfl) (hb hby at_48) (fun _ _ => ⟨rfl, e205, (by decide : 0 + 0 ≤ _), (by decide : 0 + 0 ≤ _)⟩)
    dsimp only [Pt.U, Pt.locs, Pt.cells, Pt.slots] at X207 l207 y207 z207 st207 hQ207
    subst l207 y207 z207
    obtain ⟨rfl, Nq207, e207⟩ := hQ207
    have N207 := Fr.app N205 Nq207
    refine own_go (A := _) (B := T207.setTop (mkF m 51 #[.val (.int p1), .val (.int (2 : Int32)), .val (.ref s_Move_CONVERSE_FIRST_CHILD), .val (.int (frm2 s_Move_CONVERSE_FIRST_CHILD s_Move_CONVERSE_FIRST_CHILD s_Move_CONVERSE_NEXT_SIBLING s_Move_TO_DOCUMENT)), .val (.ref s_Modality_CONVERSE_FIRST_CHILD), .unset, .val (.ref t2)] [(.int (nar .char (nar .char (((45 : Int32) &&& (255 : Int32)).toUInt32.toUInt16.toUInt32.toInt32))))])) (fun t k => st207.trans k) ?_
    refine own_go (A := T207.setTop (mkF m 51 #[.val (.int p1), .val (.int (2 : Int32)), .val (.ref s_Move_CONVERSE_FIRST_CHILD), .val (.int (frm2 s_Move_CONVERSE_FIRST_CHILD s_Move_CONVERSE_FIRST_CHILD s_Move_CONVERSE_NEXT_SIBLING s_Move_TO_DOCUMENT)), .val (.ref s_Modality_CONVERSE_FIRST_CHILD), .unset, .val (.ref t2)] [(.int (nar .char (nar .char (((45 : Int32) &&& (255 : Int32)).toUInt32.toUInt16.toUInt32.toInt32))))])) (B := T207.setTop (mkF m 53 #[.val (.int p1), .val (.int (2 : Int32)), .val (.ref s_Move_CONVERSE_FIRST_CHILD), .val (.int (frm2 s_Move_CONVERSE_FIRST_CHILD s_Move_CONVERSE_FIRST_CHILD s_Move_CONVERSE_NEXT_SIBLING s_Move_TO_DOCUMENT)), .val (.ref s_Modality_CONVERSE_FIRST_CHILD), .unset, .val (.ref t2)] [(.int (45 : Int32)), (.int (nar .char (nar .char (((45 : Int32) &&& (255 : Int32)).toUInt32.toUInt16.toUInt32.toInt32))))])) (fun t k => ?_) ?_
    · show Steps p.tables e below (T207.setTop (mkF m 51 #[.val (.int p1), .val (.int (2 : Int32)), .val (.ref s_Move_CONVERSE_FIRST_CHILD), .val (.int (frm2 s_Move_CONVERSE_FIRST_CHILD s_Move_CONVERSE_FIRST_CHILD s_Move_CONVERSE_NEXT_SIBLING s_Move_TO_DOCUMENT)), .val (.ref s_Modality_CONVERSE_FIRST_CHILD), .unset, .val (.ref t2)] [(.int (nar .char (nar .char (((45 : Int32) &&& (255 : Int32)).toUInt32.toUInt16.toUInt32.toInt32))))])) _
      refine XS.bipush X207.here hx rfl (hb hby at_51) ?_
      exact k
    have hc53_208 : ((nar .char (nar .char (((45 : Int32) &&& (255 : Int32)).toUInt32.toUInt16.toUInt32.toInt32))) = (45 : Int32)) := by decide
    refine own_go (A := T207.setTop (mkF m 53 #[.val (.int p1), .val (.int (2 : Int32)), .val (.ref s_Move_CONVERSE_FIRST_CHILD), .val (.int (frm2 s_Move_CONVERSE_FIRST_CHILD s_Move_CONVERSE_FIRST_CHILD s_Move_CONVERSE_NEXT_SIBLING s_Move_TO_DOCUMENT)), .val (.ref s_Modality_CONVERSE_FIRST_CHILD), .unset, .val (.ref t2)] [(.int (45 : Int32)), (.int (nar .char (nar .char (((45 : Int32) &&& (255 : Int32)).toUInt32.toUInt16.toUInt32.toInt32))))])) (B := T207.setTop (mkF m 81 #[.val (.int p1), .val (.int (2 : Int32)), .val (.ref s_Move_CONVERSE_FIRST_CHILD), .val (.int (frm2 s_Move_CONVERSE_FIRST_CHILD s_Move_CONVERSE_FIRST_CHILD s_Move_CONVERSE_NEXT_SIBLING s_Move_TO_DOCUMENT)), .val (.ref s_Modality_CONVERSE_FIRST_CHILD), .val (.int (1 : Int32)), .val (.ref t2)] [(.ref s_Move_CONVERSE_FIRST_CHILD)])) (fun t k => ?_) ?_
    · show Steps p.tables e below (T207.setTop (mkF m 53 #[.val (.int p1), .val (.int (2 : Int32)), .val (.ref s_Move_CONVERSE_FIRST_CHILD), .val (.int (frm2 s_Move_CONVERSE_FIRST_CHILD s_Move_CONVERSE_FIRST_CHILD s_Move_CONVERSE_NEXT_SIBLING s_Move_TO_DOCUMENT)), .val (.ref s_Modality_CONVERSE_FIRST_CHILD), .unset, .val (.ref t2)] [(.int (45 : Int32)), (.int (nar .char (nar .char (((45 : Int32) &&& (255 : Int32)).toUInt32.toUInt16.toUInt32.toInt32))))])) _
      refine XS.icmpNo X207.here hx rfl (hb hby at_53) rfl (teq hc53_208).2 ?_
      show Steps p.tables e below (T207.setTop (mkF m 56 #[.val (.int p1), .val (.int (2 : Int32)), .val (.ref s_Move_CONVERSE_FIRST_CHILD), .val (.int (frm2 s_Move_CONVERSE_FIRST_CHILD s_Move_CONVERSE_FIRST_CHILD s_Move_CONVERSE_NEXT_SIBLING s_Move_TO_DOCUMENT)), .val (.ref s_Modality_CONVERSE_FIRST_CHILD), .unset, .val (.ref t2)] [])) _
      refine XS.iconst X207.here hx rfl (hb hby at_56) ?_
      show Steps p.tables e below (T207.setTop (mkF m 57 #[.val (.int p1), .val (.int (2 : Int32)), .val (.ref s_Move_CONVERSE_FIRST_CHILD), .val (.int (frm2 s_Move_CONVERSE_FIRST_CHILD s_Move_CONVERSE_FIRST_CHILD s_Move_CONVERSE_NEXT_SIBLING s_Move_TO_DOCUMENT)), .val (.ref s_Modality_CONVERSE_FIRST_CHILD), .unset, .val (.ref t2)] [(.int (1 : Int32))])) _
      refine XS.goto X207.here hx rfl (pc0 := 57) (pc' := 61) rfl (hb hby at_57) (by decide) (by decide) ?_
      show Steps p.tables e below (T207.setTop (mkF m 61 #[.val (.int p1), .val (.int (2 : Int32)), .val (.ref s_Move_CONVERSE_FIRST_CHILD), .val (.int (frm2 s_Move_CONVERSE_FIRST_CHILD s_Move_CONVERSE_FIRST_CHILD s_Move_CONVERSE_NEXT_SIBLING s_Move_TO_DOCUMENT)), .val (.ref s_Modality_CONVERSE_FIRST_CHILD), .unset, .val (.ref t2)] [(.int (1 : Int32))])) _
      refine XS.istore X207.here hx rfl (hb hby at_61) rfl (l' := #[.val (.int p1), .val (.int (2 : Int32)), .val (.ref s_Move_CONVERSE_FIRST_CHILD), .val (.int (frm2 s_Move_CONVERSE_FIRST_CHILD s_Move_CONVERSE_FIRST_CHILD s_Move_CONVERSE_NEXT_SIBLING s_Move_TO_DOCUMENT)), .val (.ref s_Modality_CONVERSE_FIRST_CHILD), .val (.int (1 : Int32)), .val (.ref t2)]) rfl ?_
      show Steps p.tables e below (T207.setTop (mkF m 63 #[.val (.int p1), .val (.int (2 : Int32)), .val (.ref s_Move_CONVERSE_FIRST_CHILD), .val (.int (frm2 s_Move_CONVERSE_FIRST_CHILD s_Move_CONVERSE_FIRST_CHILD s_Move_CONVERSE_NEXT_SIBLING s_Move_TO_DOCUMENT)), .val (.ref s_Modality_CONVERSE_FIRST_CHILD), .val (.int (1 : Int32)), .val (.ref t2)] [])) _
      refine XS.goto X207.here hx rfl (pc0 := 63) (pc' := 80) rfl (hb hby at_63) (by decide) (by decide) ?_
      show Steps p.tables e below (T207.setTop (mkF m 80 #[.val (.int p1), .val (.int (2 : Int32)), .val (.ref s_Move_CONVERSE_FIRST_CHILD), .val (.int (frm2 s_Move_CONVERSE_FIRST_CHILD s_Move_CONVERSE_FIRST_CHILD s_Move_CONVERSE_NEXT_SIBLING s_Move_TO_DOCUMENT)), .val (.ref s_Modality_CONVERSE_FIRST_CHILD), .val (.int (1 : Int32)), .val (.ref t2)] [])) _
      refine XS.aloadN X207.here hx rfl (hb hby at_80) rfl rfl ?_
      exact k
    obtain ⟨cq209, kq209, q209a, q209b, q209c⟩ := isOf hZ e207 P11
    obtain ⟨_, _, ⟨T209, L209, k209, n209⟩, -, X209, ⟨Lc209, hQ209, l209, y209, z209⟩, st209⟩ := X207.virtualBack hx (y := (⟨"com/example/decider/decider/library/xpath/Move", "inverse", "()Lcom/example/decider/decider/library/xpath/Move;"⟩ : MethodName)) (z := (⟨"com/example/decider/decider/library/xpath/Move", "inverse", "()Lcom/example/decider/decider/library/xpath/Move;"⟩ : MethodName)) hown (mvT hZ (hw _ (List.mem_of_getElem? (i := 73) rfl))) (mvT hZ (hw _ (List.mem_of_getElem? (i := 74) rfl))) (notFace_of_selects (args := #[]) (mvT hZ (hw _ (List.mem_of_getElem? (i := 76) rfl)))) (mvT hZ (hw _ (List.mem_of_getElem? (i := 76) rfl))) (mvT hZ (hw _ (List.mem_of_getElem? (i := 75) rfl))) (by decide) (backOf (W := 0) (rm12_2 l Z a0 hw [] s_Move_CONVERSE_FIRST_CHILD s_Move_FIRST_CHILD h0 n0 Z0 P11 P2 P12) hZ (hw _ (List.mem_of_getElem? (i := 77) rfl)) (hw _ (List.mem_of_getElem? (i := 6) rfl)) (by decide) (by decide)) q209a q209c (g := (mkF m 81 #[.val (.int p1), .val (.int (2 : Int32)), .val (.ref s_Move_CONVERSE_FIRST_CHILD), .val (.int (frm2 s_Move_CONVERSE_FIRST_CHILD s_Move_CONVERSE_FIRST_CHILD s_Move_CONVERSE_NEXT_SIBLING s_Move_TO_DOCUMENT)), .val (.ref s_Modality_CONVERSE_FIRST_CHILD), .val (.int (1 : Int32)), .val (.ref t2)] [(.ref s_Move_CONVERSE_FIRST_CHILD)])) rfl (by rw [hml]; rfl) (Steps.refl _) (argsL := []) (rest := []) (lenOf pd_10 rfl) rfl (by show 2 * 0 + _ ≤ _; exact Nat.le_of_eq rfl) (hb hby at_81) (fun _ _ => ⟨rfl, e207, (by decide : 0 + 0 ≤ _), (by decide : 0 + 0 ≤ _)⟩)
    dsimp only [Pt.U, Pt.locs, Pt.cells, Pt.slots] at X209 l209 y209 z209 st209 hQ209
    subst l209 y209 z209
    obtain ⟨rfl, Nq209, e209⟩ := hQ209
    have N209 := Fr.app N207 Nq209
    refine own_go (A := _) (B := T209.setTop (mkF m 84 #[.val (.int p1), .val (.int (2 : Int32)), .val (.ref s_Move_CONVERSE_FIRST_CHILD), .val (.int (frm2 s_Move_CONVERSE_FIRST_CHILD s_Move_CONVERSE_FIRST_CHILD s_Move_CONVERSE_NEXT_SIBLING s_Move_TO_DOCUMENT)), .val (.ref s_Modality_CONVERSE_FIRST_CHILD), .val (.int (1 : Int32)), .val (.ref t2)] [(.ref s_Move_FIRST_CHILD)])) (fun t k => st209.trans k) ?_
    obtain ⟨cq210, kq210, q210a, q210b, q210c⟩ := isOf hZ e209 P3
    obtain ⟨_, _, ⟨T210, L210, k210, n210⟩, -, X210, ⟨Lc210, hQ210, l210, y210, z210⟩, st210⟩ := X209.virtualBack hx (y := (⟨"com/example/decider/decider/library/xpath/Move", "upward", "()Z"⟩ : MethodName)) (z := (⟨"com/example/decider/decider/library/xpath/Move", "upward", "()Z"⟩ : MethodName)) hown (mvT hZ (hw _ (List.mem_of_getElem? (i := 8) rfl))) (mvT hZ (hw _ (List.mem_of_getElem? (i := 9) rfl))) (notFace_of_selects (args := #[]) (mvT hZ (hw _ (List.mem_of_getElem? (i := 11) rfl)))) (mvT hZ (hw _ (List.mem_of_getElem? (i := 11) rfl))) (mvT hZ (hw _ (List.mem_of_getElem? (i := 10) rfl))) (by decide) (backOf (W := 0) (rm2 l Z a0 hw [] s_Move_FIRST_CHILD s_Move_CONVERSE_FIRST_CHILD s_Move_CONVERSE_NEXT_SIBLING s_Move_TO_DOCUMENT h0 n0 Z0 P10 P14 P18) hZ (hw _ (List.mem_of_getElem? (i := 12) rfl)) (hw _ (List.mem_of_getElem? (i := 6) rfl)) (by decide) (by decide)) q210a q210c (g := (mkF m 84 #[.val (.int p1), .val (.int (2 : Int32)), .val (.ref s_Move_CONVERSE_FIRST_CHILD), .val (.int (frm2 s_Move_CONVERSE_FIRST_CHILD s_Move_CONVERSE_FIRST_CHILD s_Move_CONVERSE_NEXT_SIBLING s_Move_TO_DOCUMENT)), .val (.ref s_Modality_CONVERSE_FIRST_CHILD), .val (.int (1 : Int32)), .val (.ref t2)] [(.ref s_Move_FIRST_CHILD)])) rfl (by rw [hml]; rfl) (Steps.refl _) (argsL := []) (rest := []) (lenOf pd_4 rfl) rfl (by show 2 * 0 + _ ≤ _; exact Nat.le_of_eq rfl) (hb hby at_84) (fun _ _ => ⟨rfl, e209, (by decide : 0 + 0 ≤ _), (by decide : 0 + 0 ≤ _)⟩)
    dsimp only [Pt.U, Pt.locs, Pt.cells, Pt.slots] at X210 l210 y210 z210 st210 hQ210
    subst l210 y210 z210
    obtain ⟨rfl, Nq210, e210⟩ := hQ210
    have N210 := Fr.app N209 Nq210
    refine own_go (A := _) (B := T210.setTop (mkF m 87 #[.val (.int p1), .val (.int (2 : Int32)), .val (.ref s_Move_CONVERSE_FIRST_CHILD), .val (.int (frm2 s_Move_CONVERSE_FIRST_CHILD s_Move_CONVERSE_FIRST_CHILD s_Move_CONVERSE_NEXT_SIBLING s_Move_TO_DOCUMENT)), .val (.ref s_Modality_CONVERSE_FIRST_CHILD), .val (.int (1 : Int32)), .val (.ref t2)] [(.int (frm2 s_Move_FIRST_CHILD s_Move_CONVERSE_FIRST_CHILD s_Move_CONVERSE_NEXT_SIBLING s_Move_TO_DOCUMENT))])) (fun t k => st210.trans k) ?_
    refine own_go (A := T210.setTop (mkF m 87 #[.val (.int p1), .val (.int (2 : Int32)), .val (.ref s_Move_CONVERSE_FIRST_CHILD), .val (.int (frm2 s_Move_CONVERSE_FIRST_CHILD s_Move_CONVERSE_FIRST_CHILD s_Move_CONVERSE_NEXT_SIBLING s_Move_TO_DOCUMENT)), .val (.ref s_Modality_CONVERSE_FIRST_CHILD), .val (.int (1 : Int32)), .val (.ref t2)] [(.int (frm2 s_Move_FIRST_CHILD s_Move_CONVERSE_FIRST_CHILD s_Move_CONVERSE_NEXT_SIBLING s_Move_TO_DOCUMENT))])) (B := T210.setTop (mkF m 92 #[.val (.int p1), .val (.int (2 : Int32)), .val (.ref s_Move_CONVERSE_FIRST_CHILD), .val (.int (frm2 s_Move_CONVERSE_FIRST_CHILD s_Move_CONVERSE_FIRST_CHILD s_Move_CONVERSE_NEXT_SIBLING s_Move_TO_DOCUMENT)), .val (.ref s_Modality_CONVERSE_FIRST_CHILD), .val (.int (1 : Int32)), .val (.int (frm2 s_Move_FIRST_CHILD s_Move_CONVERSE_FIRST_CHILD s_Move_CONVERSE_NEXT_SIBLING s_Move_TO_DOCUMENT))] [(.int (1 : Int32)), (.int (frm2 s_Move_CONVERSE_FIRST_CHILD s_Move_CONVERSE_FIRST_CHILD s_Move_CONVERSE_NEXT_SIBLING s_Move_TO_DOCUMENT))])) (fun t k => ?_) ?_
    · show Steps p.tables e below (T210.setTop (mkF m 87 #[.val (.int p1), .val (.int (2 : Int32)), .val (.ref s_Move_CONVERSE_FIRST_CHILD), .val (.int (frm2 s_Move_CONVERSE_FIRST_CHILD s_Move_CONVERSE_FIRST_CHILD s_Move_CONVERSE_NEXT_SIBLING s_Move_TO_DOCUMENT)), .val (.ref s_Modality_CONVERSE_FIRST_CHILD), .val (.int (1 : Int32)), .val (.ref t2)] [(.int (frm2 s_Move_FIRST_CHILD s_Move_CONVERSE_FIRST_CHILD s_Move_CONVERSE_NEXT_SIBLING s_Move_TO_DOCUMENT))])) _
      refine XS.istore X210.here hx rfl (hb hby at_87) rfl (l' := #[.val (.int p1), .val (.int (2 : Int32)), .val (.ref s_Move_CONVERSE_FIRST_CHILD), .val (.int (frm2 s_Move_CONVERSE_FIRST_CHILD s_Move_CONVERSE_FIRST_CHILD s_Move_CONVERSE_NEXT_SIBLING s_Move_TO_DOCUMENT)), .val (.ref s_Modality_CONVERSE_FIRST_CHILD), .val (.int (1 : Int32)), .val (.int (frm2 s_Move_FIRST_CHILD s_Move_CONVERSE_FIRST_CHILD s_Move_CONVERSE_NEXT_SIBLING s_Move_TO_DOCUMENT))]) rfl ?_
      show Steps p.tables e below (T210.setTop (mkF m 89 #[.val (.int p1), .val (.int (2 : Int32)), .val (.ref s_Move_CONVERSE_FIRST_CHILD), .val (.int (frm2 s_Move_CONVERSE_FIRST_CHILD s_Move_CONVERSE_FIRST_CHILD s_Move_CONVERSE_NEXT_SIBLING s_Move_TO_DOCUMENT)), .val (.ref s_Modality_CONVERSE_FIRST_CHILD), .val (.int (1 : Int32)), .val (.int (frm2 s_Move_FIRST_CHILD s_Move_CONVERSE_FIRST_CHILD s_Move_CONVERSE_NEXT_SIBLING s_Move_TO_DOCUMENT))] [])) _
      refine XS.iloadN X210.here hx rfl (hb hby at_89) rfl ?_
      show Steps p.tables e below (T210.setTop (mkF m 90 #[.val (.int p1), .val (.int (2 : Int32)), .val (.ref s_Move_CONVERSE_FIRST_CHILD), .val (.int (frm2 s_Move_CONVERSE_FIRST_CHILD s_Move_CONVERSE_FIRST_CHILD s_Move_CONVERSE_NEXT_SIBLING s_Move_TO_DOCUMENT)), .val (.ref s_Modality_CONVERSE_FIRST_CHILD), .val (.int (1 : Int32)), .val (.int (frm2 s_Move_FIRST_CHILD s_Move_CONVERSE_FIRST_CHILD s_Move_CONVERSE_NEXT_SIBLING s_Move_TO_DOCUMENT))] [(.int (frm2 s_Move_CONVERSE_FIRST_CHILD s_Move_CONVERSE_FIRST_CHILD s_Move_CONVERSE_NEXT_SIBLING s_Move_TO_DOCUMENT))])) _
      refine XS.iload X210.here hx rfl (hb hby at_90) rfl ?_
      exact k
    have hc92_211 : ((frm2 s_Move_CONVERSE_FIRST_CHILD s_Move_CONVERSE_FIRST_CHILD s_Move_CONVERSE_NEXT_SIBLING s_Move_TO_DOCUMENT) = (1 : Int32)) := by simp [frm2, ne_s_Move_FIRST_CHILD_s_Move_CONVERSE_FIRST_CHILD, ne_s_Move_FIRST_CHILD_s_Move_CONVERSE_NEXT_SIBLING, ne_s_Move_FIRST_CHILD_s_Move_TO_DOCUMENT]
    refine own_go (A := T210.setTop (mkF m 92 #[.val (.int p1), .val (.int (2 : Int32)), .val (.ref s_Move_CONVERSE_FIRST_CHILD), .val (.int (frm2 s_Move_CONVERSE_FIRST_CHILD s_Move_CONVERSE_FIRST_CHILD s_Move_CONVERSE_NEXT_SIBLING s_Move_TO_DOCUMENT)), .val (.ref s_Modality_CONVERSE_FIRST_CHILD), .val (.int (1 : Int32)), .val (.int (frm2 s_Move_FIRST_CHILD s_Move_CONVERSE_FIRST_CHILD s_Move_CONVERSE_NEXT_SIBLING s_Move_TO_DOCUMENT))] [(.int (1 : Int32)), (.int (frm2 s_Move_CONVERSE_FIRST_CHILD s_Move_CONVERSE_FIRST_CHILD s_Move_CONVERSE_NEXT_SIBLING s_Move_TO_DOCUMENT))])) (B := T210.setTop (mkF m 98 #[.val (.int p1), .val (.int (2 : Int32)), .val (.ref s_Move_CONVERSE_FIRST_CHILD), .val (.int (frm2 s_Move_CONVERSE_FIRST_CHILD s_Move_CONVERSE_FIRST_CHILD s_Move_CONVERSE_NEXT_SIBLING s_Move_TO_DOCUMENT)), .val (.ref s_Modality_CONVERSE_FIRST_CHILD), .val (.int (1 : Int32)), .val (.int (frm2 s_Move_FIRST_CHILD s_Move_CONVERSE_FIRST_CHILD s_Move_CONVERSE_NEXT_SIBLING s_Move_TO_DOCUMENT))] [(.int (frm2 s_Move_FIRST_CHILD s_Move_CONVERSE_FIRST_CHILD s_Move_CONVERSE_NEXT_SIBLING s_Move_TO_DOCUMENT)), (.int (frm2 s_Move_CONVERSE_FIRST_CHILD s_Move_CONVERSE_FIRST_CHILD s_Move_CONVERSE_NEXT_SIBLING s_Move_TO_DOCUMENT))])) (fun t k => ?_) ?_
    · show Steps p.tables e below (T210.setTop (mkF m 92 #[.val (.int p1), .val (.int (2 : Int32)), .val (.ref s_Move_CONVERSE_FIRST_CHILD), .val (.int (frm2 s_Move_CONVERSE_FIRST_CHILD s_Move_CONVERSE_FIRST_CHILD s_Move_CONVERSE_NEXT_SIBLING s_Move_TO_DOCUMENT)), .val (.ref s_Modality_CONVERSE_FIRST_CHILD), .val (.int (1 : Int32)), .val (.int (frm2 s_Move_FIRST_CHILD s_Move_CONVERSE_FIRST_CHILD s_Move_CONVERSE_NEXT_SIBLING s_Move_TO_DOCUMENT))] [(.int (1 : Int32)), (.int (frm2 s_Move_CONVERSE_FIRST_CHILD s_Move_CONVERSE_FIRST_CHILD s_Move_CONVERSE_NEXT_SIBLING s_Move_TO_DOCUMENT))])) _
      refine XS.icmpNo X210.here hx rfl (hb hby at_92) rfl (teq hc92_211).2 ?_
      show Steps p.tables e below (T210.setTop (mkF m 95 #[.val (.int p1), .val (.int (2 : Int32)), .val (.ref s_Move_CONVERSE_FIRST_CHILD), .val (.int (frm2 s_Move_CONVERSE_FIRST_CHILD s_Move_CONVERSE_FIRST_CHILD s_Move_CONVERSE_NEXT_SIBLING s_Move_TO_DOCUMENT)), .val (.ref s_Modality_CONVERSE_FIRST_CHILD), .val (.int (1 : Int32)), .val (.int (frm2 s_Move_FIRST_CHILD s_Move_CONVERSE_FIRST_CHILD s_Move_CONVERSE_NEXT_SIBLING s_Move_TO_DOCUMENT))] [])) _
      refine XS.iloadN X210.here hx rfl (hb hby at_95) rfl ?_
      show Steps p.tables e below (T210.setTop (mkF m 96 #[.val (.int p1), .val (.int (2 : Int32)), .val (.ref s_Move_CONVERSE_FIRST_CHILD), .val (.int (frm2 s_Move_CONVERSE_FIRST_CHILD s_Move_CONVERSE_FIRST_CHILD s_Move_CONVERSE_NEXT_SIBLING s_Move_TO_DOCUMENT)), .val (.ref s_Modality_CONVERSE_FIRST_CHILD), .val (.int (1 : Int32)), .val (.int (frm2 s_Move_FIRST_CHILD s_Move_CONVERSE_FIRST_CHILD s_Move_CONVERSE_NEXT_SIBLING s_Move_TO_DOCUMENT))] [(.int (frm2 s_Move_CONVERSE_FIRST_CHILD s_Move_CONVERSE_FIRST_CHILD s_Move_CONVERSE_NEXT_SIBLING s_Move_TO_DOCUMENT))])) _
      refine XS.iload X210.here hx rfl (hb hby at_96) rfl ?_
      exact k
    have hc98_212 : ¬ ((frm2 s_Move_CONVERSE_FIRST_CHILD s_Move_CONVERSE_FIRST_CHILD s_Move_CONVERSE_NEXT_SIBLING s_Move_TO_DOCUMENT) = (frm2 s_Move_FIRST_CHILD s_Move_CONVERSE_FIRST_CHILD s_Move_CONVERSE_NEXT_SIBLING s_Move_TO_DOCUMENT)) := by simp [frm2, ne_s_Move_FIRST_CHILD_s_Move_CONVERSE_FIRST_CHILD, ne_s_Move_FIRST_CHILD_s_Move_CONVERSE_NEXT_SIBLING, ne_s_Move_FIRST_CHILD_s_Move_TO_DOCUMENT]
    refine own_go (A := T210.setTop (mkF m 98 #[.val (.int p1), .val (.int (2 : Int32)), .val (.ref s_Move_CONVERSE_FIRST_CHILD), .val (.int (frm2 s_Move_CONVERSE_FIRST_CHILD s_Move_CONVERSE_FIRST_CHILD s_Move_CONVERSE_NEXT_SIBLING s_Move_TO_DOCUMENT)), .val (.ref s_Modality_CONVERSE_FIRST_CHILD), .val (.int (1 : Int32)), .val (.int (frm2 s_Move_FIRST_CHILD s_Move_CONVERSE_FIRST_CHILD s_Move_CONVERSE_NEXT_SIBLING s_Move_TO_DOCUMENT))] [(.int (frm2 s_Move_FIRST_CHILD s_Move_CONVERSE_FIRST_CHILD s_Move_CONVERSE_NEXT_SIBLING s_Move_TO_DOCUMENT)), (.int (frm2 s_Move_CONVERSE_FIRST_CHILD s_Move_CONVERSE_FIRST_CHILD s_Move_CONVERSE_NEXT_SIBLING s_Move_TO_DOCUMENT))])) (B := T210.setTop (mkF m 106 #[.val (.int p1), .val (.int (2 : Int32)), .val (.ref s_Move_CONVERSE_FIRST_CHILD), .val (.int (frm2 s_Move_CONVERSE_FIRST_CHILD s_Move_CONVERSE_FIRST_CHILD s_Move_CONVERSE_NEXT_SIBLING s_Move_TO_DOCUMENT)), .val (.ref s_Modality_CONVERSE_FIRST_CHILD), .val (.int (1 : Int32)), .val (.int (frm2 s_Move_FIRST_CHILD s_Move_CONVERSE_FIRST_CHILD s_Move_CONVERSE_NEXT_SIBLING s_Move_TO_DOCUMENT))] [(.int (1 : Int32))])) (fun t k => ?_) ?_
    · show Steps p.tables e below (T210.setTop (mkF m 98 #[.val (.int p1), .val (.int (2 : Int32)), .val (.ref s_Move_CONVERSE_FIRST_CHILD), .val (.int (frm2 s_Move_CONVERSE_FIRST_CHILD s_Move_CONVERSE_FIRST_CHILD s_Move_CONVERSE_NEXT_SIBLING s_Move_TO_DOCUMENT)), .val (.ref s_Modality_CONVERSE_FIRST_CHILD), .val (.int (1 : Int32)), .val (.int (frm2 s_Move_FIRST_CHILD s_Move_CONVERSE_FIRST_CHILD s_Move_CONVERSE_NEXT_SIBLING s_Move_TO_DOCUMENT))] [(.int (frm2 s_Move_FIRST_CHILD s_Move_CONVERSE_FIRST_CHILD s_Move_CONVERSE_NEXT_SIBLING s_Move_TO_DOCUMENT)), (.int (frm2 s_Move_CONVERSE_FIRST_CHILD s_Move_CONVERSE_FIRST_CHILD s_Move_CONVERSE_NEXT_SIBLING s_Move_TO_DOCUMENT))])) _
      refine XS.icmpNo X210.here hx rfl (hb hby at_98) rfl (feq hc98_212).1 ?_
      show Steps p.tables e below (T210.setTop (mkF m 101 #[.val (.int p1), .val (.int (2 : Int32)), .val (.ref s_Move_CONVERSE_FIRST_CHILD), .val (.int (frm2 s_Move_CONVERSE_FIRST_CHILD s_Move_CONVERSE_FIRST_CHILD s_Move_CONVERSE_NEXT_SIBLING s_Move_TO_DOCUMENT)), .val (.ref s_Modality_CONVERSE_FIRST_CHILD), .val (.int (1 : Int32)), .val (.int (frm2 s_Move_FIRST_CHILD s_Move_CONVERSE_FIRST_CHILD s_Move_CONVERSE_NEXT_SIBLING s_Move_TO_DOCUMENT))] [])) _
      refine XS.iconst X210.here hx rfl (hb hby at_101) ?_
      show Steps p.tables e below (T210.setTop (mkF m 102 #[.val (.int p1), .val (.int (2 : Int32)), .val (.ref s_Move_CONVERSE_FIRST_CHILD), .val (.int (frm2 s_Move_CONVERSE_FIRST_CHILD s_Move_CONVERSE_FIRST_CHILD s_Move_CONVERSE_NEXT_SIBLING s_Move_TO_DOCUMENT)), .val (.ref s_Modality_CONVERSE_FIRST_CHILD), .val (.int (1 : Int32)), .val (.int (frm2 s_Move_FIRST_CHILD s_Move_CONVERSE_FIRST_CHILD s_Move_CONVERSE_NEXT_SIBLING s_Move_TO_DOCUMENT))] [(.int (1 : Int32))])) _
      refine XS.goto X210.here hx rfl (pc0 := 102) (pc' := 106) rfl (hb hby at_102) (by decide) (by decide) ?_
      exact k
    obtain ⟨fs, hr, hrun, hended, hW, hsame⟩ := X210.leave (v := some (.int (1 : Int32))) (fun h => by rw [Bd.returns] at h; cases h)
    refine ⟨_, _, ?_, hrun, hended, _, _, rfl, ?_, ⟨_, rfl⟩, hW, hsame.mono (by decide) (by decide)⟩
    · show Steps p.tables e below (T210.setTop (mkF m 106 #[.val (.int p1), .val (.int (2 : Int32)), .val (.ref s_Move_CONVERSE_FIRST_CHILD), .val (.int (frm2 s_Move_CONVERSE_FIRST_CHILD s_Move_CONVERSE_FIRST_CHILD s_Move_CONVERSE_NEXT_SIBLING s_Move_TO_DOCUMENT)), .val (.ref s_Modality_CONVERSE_FIRST_CHILD), .val (.int (1 : Int32)), .val (.int (frm2 s_Move_FIRST_CHILD s_Move_CONVERSE_FIRST_CHILD s_Move_CONVERSE_NEXT_SIBLING s_Move_TO_DOCUMENT))] [(.int (1 : Int32))])) _
      exact retN X210 hx (t := .boolean) Bd.returns (by simp) (hb hby at_106) hr
    · show Qrm0N Z p1 cs s_Move_FIRST_CHILD s_Move_NEXT_SIBLING s_Move_CONVERSE_FIRST_CHILD s_Move_CONVERSE_NEXT_SIBLING s_Move_TO_DOCUMENT s_Move_FROM_DOCUMENT s_Modality_FIRST_CHILD t0 v0 kk0 s_Modality_NEXT_SIBLING t1 v1 kk1 s_Modality_CONVERSE_FIRST_CHILD t2 v2 kk2 s_Modality_CONVERSE_NEXT_SIBLING t3 v3 kk3 h0 n0 _ T210.heap _
      rw [e210]
      exact ⟨rfl, N210⟩
  · rw [hk176]
    refine own_go (A := s₁.setTop (mkF m 7 #[.val (.int p1), .unset, .unset, .unset, .unset, .unset, .unset] [(.int (3 : Int32))])) (B := s₁.setTop (mkF m 9 #[.val (.int p1), .val (.int (3 : Int32)), .unset, .unset, .unset, .unset, .unset] [(.int (3 : Int32))])) (fun t k => ?_) ?_
    · show Steps p.tables e below (s₁.setTop (mkF m 7 #[.val (.int p1), .unset, .unset, .unset, .unset, .unset, .unset] [(.int (3 : Int32))])) _
      refine XS.istoreN X0.here hx rfl (hb hby at_7) rfl (l' := #[.val (.int p1), .val (.int (3 : Int32)), .unset, .unset, .unset, .unset, .unset]) rfl ?_
      show Steps p.tables e below (s₁.setTop (mkF m 8 #[.val (.int p1), .val (.int (3 : Int32)), .unset, .unset, .unset, .unset, .unset] [])) _
      refine XS.iloadN X0.here hx rfl (hb hby at_8) rfl ?_
      exact k
    obtain ⟨_, _, ⟨T213, L213, k213, n213⟩, -, X213, ⟨Lc213, hQ213, l213, y213, z213⟩, st213⟩ := Jvm.LawKit.callS X0 hx (y := (⟨"com/example/decider/decider/library/xpath/MoveUpwardPinLaw", "pick", "(I)Lcom/example/decider/decider/library/xpath/Move;"⟩ : MethodName)) hown (mvT hZ (hw _ (List.mem_of_getElem? (i := 1) rfl))) (mvT hZ (hw _ (List.mem_of_getElem? (i := 2) rfl))) (mvT hZ (hw _ (List.mem_of_getElem? (i := 3) rfl))) (mvT hZ (hw _ (List.mem_of_getElem? (i := 4) rfl))) (by decide) (backOf (W := 0) (rm1_3 l Z a0 hw [] s_Move_CONVERSE_NEXT_SIBLING h0 n0 Z0 P14) hZ (hw _ (List.mem_of_getElem? (i := 4) rfl)) (hw _ (List.mem_of_getElem? (i := 3) rfl)) (by decide) (by decide)) (g := (mkF m 9 #[.val (.int p1), .val (.int (3 : Int32)), .unset, .unset, .unset, .unset, .unset] [(.int (3 : Int32))])) rfl (by rw [hml]; rfl) (argsL := [(.int (3 : Int32))]) (rest := []) (lenOf pd_6 rfl) rfl (by show 2 * 0 + _ ≤ _; exact Nat.le_of_eq rfl) (hb hby at_9) (fun _ _ => ⟨rfl, e0, (by decide : 0 + 0 ≤ _), (by decide : 0 + 0 ≤ _)⟩)
    dsimp only [Pt.U, Pt.locs, Pt.cells, Pt.slots] at X213 l213 y213 z213 st213 hQ213
    subst l213 y213 z213
    obtain ⟨rfl, Nq213, e213⟩ := hQ213
    have N213 := Fr.app N0 Nq213
    refine own_go (A := _) (B := T213.setTop (mkF m 12 #[.val (.int p1), .val (.int (3 : Int32)), .unset, .unset, .unset, .unset, .unset] [(.ref s_Move_CONVERSE_NEXT_SIBLING)])) st213 ?_
    refine own_go (A := T213.setTop (mkF m 12 #[.val (.int p1), .val (.int (3 : Int32)), .unset, .unset, .unset, .unset, .unset] [(.ref s_Move_CONVERSE_NEXT_SIBLING)])) (B := T213.setTop (mkF m 14 #[.val (.int p1), .val (.int (3 : Int32)), .val (.ref s_Move_CONVERSE_NEXT_SIBLING), .unset, .unset, .unset, .unset] [(.ref s_Move_CONVERSE_NEXT_SIBLING)])) (fun t k => ?_) ?_
    · show Steps p.tables e below (T213.setTop (mkF m 12 #[.val (.int p1), .val (.int (3 : Int32)), .unset, .unset, .unset, .unset, .unset] [(.ref s_Move_CONVERSE_NEXT_SIBLING)])) _
      refine XS.astoreN X213.here hx rfl (hb hby at_12) rfl rfl (l' := #[.val (.int p1), .val (.int (3 : Int32)), .val (.ref s_Move_CONVERSE_NEXT_SIBLING), .unset, .unset, .unset, .unset]) rfl ?_
      show Steps p.tables e below (T213.setTop (mkF m 13 #[.val (.int p1), .val (.int (3 : Int32)), .val (.ref s_Move_CONVERSE_NEXT_SIBLING), .unset, .unset, .unset, .unset] [])) _
      refine XS.aloadN X213.here hx rfl (hb hby at_13) rfl rfl ?_
      exact k
    obtain ⟨cq214, kq214, q214a, q214b, q214c⟩ := isOf hZ e213 P15
    obtain ⟨_, _, ⟨T214, L214, k214, n214⟩, -, X214, ⟨Lc214, hQ214, l214, y214, z214⟩, st214⟩ := X213.virtualBack hx (y := (⟨"com/example/decider/decider/library/xpath/Move", "upward", "()Z"⟩ : MethodName)) (z := (⟨"com/example/decider/decider/library/xpath/Move", "upward", "()Z"⟩ : MethodName)) hown (mvT hZ (hw _ (List.mem_of_getElem? (i := 8) rfl))) (mvT hZ (hw _ (List.mem_of_getElem? (i := 9) rfl))) (notFace_of_selects (args := #[]) (mvT hZ (hw _ (List.mem_of_getElem? (i := 11) rfl)))) (mvT hZ (hw _ (List.mem_of_getElem? (i := 11) rfl))) (mvT hZ (hw _ (List.mem_of_getElem? (i := 10) rfl))) (by decide) (backOf (W := 0) (rm2 l Z a0 hw [] s_Move_CONVERSE_NEXT_SIBLING s_Move_CONVERSE_FIRST_CHILD s_Move_CONVERSE_NEXT_SIBLING s_Move_TO_DOCUMENT h0 n0 Z0 P10 P14 P18) hZ (hw _ (List.mem_of_getElem? (i := 12) rfl)) (hw _ (List.mem_of_getElem? (i := 6) rfl)) (by decide) (by decide)) q214a q214c (g := (mkF m 14 #[.val (.int p1), .val (.int (3 : Int32)), .val (.ref s_Move_CONVERSE_NEXT_SIBLING), .unset, .unset, .unset, .unset] [(.ref s_Move_CONVERSE_NEXT_SIBLING)])) rfl (by rw [hml]; rfl) (Steps.refl _) (argsL := []) (rest := []) (lenOf pd_4 rfl) rfl (by show 2 * 0 + _ ≤ _; exact Nat.le_of_eq rfl) (hb hby at_14) (fun _ _ => ⟨rfl, e213, (by decide : 0 + 0 ≤ _), (by decide : 0 + 0 ≤ _)⟩)
    dsimp only [Pt.U, Pt.locs, Pt.cells, Pt.slots] at X214 l214 y214 z214 st214 hQ214
    subst l214 y214 z214
    obtain ⟨rfl, Nq214, e214⟩ := hQ214
    have N214 := Fr.app N213 Nq214
    refine own_go (A := _) (B := T214.setTop (mkF m 17 #[.val (.int p1), .val (.int (3 : Int32)), .val (.ref s_Move_CONVERSE_NEXT_SIBLING), .unset, .unset, .unset, .unset] [(.int (frm2 s_Move_CONVERSE_NEXT_SIBLING s_Move_CONVERSE_FIRST_CHILD s_Move_CONVERSE_NEXT_SIBLING s_Move_TO_DOCUMENT))])) (fun t k => st214.trans k) ?_
    refine own_go (A := T214.setTop (mkF m 17 #[.val (.int p1), .val (.int (3 : Int32)), .val (.ref s_Move_CONVERSE_NEXT_SIBLING), .unset, .unset, .unset, .unset] [(.int (frm2 s_Move_CONVERSE_NEXT_SIBLING s_Move_CONVERSE_FIRST_CHILD s_Move_CONVERSE_NEXT_SIBLING s_Move_TO_DOCUMENT))])) (B := T214.setTop (mkF m 19 #[.val (.int p1), .val (.int (3 : Int32)), .val (.ref s_Move_CONVERSE_NEXT_SIBLING), .val (.int (frm2 s_Move_CONVERSE_NEXT_SIBLING s_Move_CONVERSE_FIRST_CHILD s_Move_CONVERSE_NEXT_SIBLING s_Move_TO_DOCUMENT)), .unset, .unset, .unset] [(.ref s_Move_CONVERSE_NEXT_SIBLING)])) (fun t k => ?_) ?_
    · show Steps p.tables e below (T214.setTop (mkF m 17 #[.val (.int p1), .val (.int (3 : Int32)), .val (.ref s_Move_CONVERSE_NEXT_SIBLING), .unset, .unset, .unset, .unset] [(.int (frm2 s_Move_CONVERSE_NEXT_SIBLING s_Move_CONVERSE_FIRST_CHILD s_Move_CONVERSE_NEXT_SIBLING s_Move_TO_DOCUMENT))])) _
      refine XS.istoreN X214.here hx rfl (hb hby at_17) rfl (l' := #[.val (.int p1), .val (.int (3 : Int32)), .val (.ref s_Move_CONVERSE_NEXT_SIBLING), .val (.int (frm2 s_Move_CONVERSE_NEXT_SIBLING s_Move_CONVERSE_FIRST_CHILD s_Move_CONVERSE_NEXT_SIBLING s_Move_TO_DOCUMENT)), .unset, .unset, .unset]) rfl ?_
      show Steps p.tables e below (T214.setTop (mkF m 18 #[.val (.int p1), .val (.int (3 : Int32)), .val (.ref s_Move_CONVERSE_NEXT_SIBLING), .val (.int (frm2 s_Move_CONVERSE_NEXT_SIBLING s_Move_CONVERSE_FIRST_CHILD s_Move_CONVERSE_NEXT_SIBLING s_Move_TO_DOCUMENT)), .unset, .unset, .unset] [])) _
      refine XS.aloadN X214.here hx rfl (hb hby at_18) rfl rfl ?_
      exact k
    obtain ⟨cq215, kq215, q215a, q215b, q215c⟩ := isOf hZ e214 P15
    obtain ⟨_, _, ⟨T215, L215, k215, n215⟩, -, X215, ⟨Lc215, hQ215, l215, y215, z215⟩, st215⟩ := X214.virtualBack hx (y := (⟨"com/example/decider/decider/library/xpath/Move", "modality", "()Lcom/example/decider/decider/logic/formula/Modality;"⟩ : MethodName)) (z := (⟨"com/example/decider/decider/library/xpath/Move", "modality", "()Lcom/example/decider/decider/logic/formula/Modality;"⟩ : MethodName)) hown (mvT hZ (hw _ (List.mem_of_getElem? (i := 19) rfl))) (mvT hZ (hw _ (List.mem_of_getElem? (i := 20) rfl))) (notFace_of_selects (args := #[]) (mvT hZ (hw _ (List.mem_of_getElem? (i := 22) rfl)))) (mvT hZ (hw _ (List.mem_of_getElem? (i := 22) rfl))) (mvT hZ (hw _ (List.mem_of_getElem? (i := 21) rfl))) (by decide) (backOf (W := 0) (rm3 l Z a0 hw [] s_Move_CONVERSE_NEXT_SIBLING s_Modality_CONVERSE_NEXT_SIBLING h0 n0 Z0 P17) hZ (hw _ (List.mem_of_getElem? (i := 23) rfl)) (hw _ (List.mem_of_getElem? (i := 6) rfl)) (by decide) (by decide)) q215a q215c (g := (mkF m 19 #[.val (.int p1), .val (.int (3 : Int32)), .val (.ref s_Move_CONVERSE_NEXT_SIBLING), .val (.int (frm2 s_Move_CONVERSE_NEXT_SIBLING s_Move_CONVERSE_FIRST_CHILD s_Move_CONVERSE_NEXT_SIBLING s_Move_TO_DOCUMENT)), .unset, .unset, .unset] [(.ref s_Move_CONVERSE_NEXT_SIBLING)])) rfl (by rw [hml]; rfl) (Steps.refl _) (argsL := []) (rest := []) (lenOf pd_7 rfl) rfl (by show 2 * 0 + _ ≤ _; exact Nat.le_of_eq rfl) (hb hby at_19) (fun _ _ => ⟨rfl, e214, (by decide : 0 + 0 ≤ _), (by decide : 0 + 0 ≤ _)⟩)
    dsimp only [Pt.U, Pt.locs, Pt.cells, Pt.slots] at X215 l215 y215 z215 st215 hQ215
    subst l215 y215 z215
    obtain ⟨rfl, Nq215, e215⟩ := hQ215
    have N215 := Fr.app N214 Nq215
    refine own_go (A := _) (B := T215.setTop (mkF m 22 #[.val (.int p1), .val (.int (3 : Int32)), .val (.ref s_Move_CONVERSE_NEXT_SIBLING), .val (.int (frm2 s_Move_CONVERSE_NEXT_SIBLING s_Move_CONVERSE_FIRST_CHILD s_Move_CONVERSE_NEXT_SIBLING s_Move_TO_DOCUMENT)), .unset, .unset, .unset] [(.ref s_Modality_CONVERSE_NEXT_SIBLING)])) (fun t k => st215.trans k) ?_
    refine own_go (A := T215.setTop (mkF m 22 #[.val (.int p1), .val (.int (3 : Int32)), .val (.ref s_Move_CONVERSE_NEXT_SIBLING), .val (.int (frm2 s_Move_CONVERSE_NEXT_SIBLING s_Move_CONVERSE_FIRST_CHILD s_Move_CONVERSE_NEXT_SIBLING s_Move_TO_DOCUMENT)), .unset, .unset, .unset] [(.ref s_Modality_CONVERSE_NEXT_SIBLING)])) (B := T215.setTop (mkF m 31 #[.val (.int p1), .val (.int (3 : Int32)), .val (.ref s_Move_CONVERSE_NEXT_SIBLING), .val (.int (frm2 s_Move_CONVERSE_NEXT_SIBLING s_Move_CONVERSE_FIRST_CHILD s_Move_CONVERSE_NEXT_SIBLING s_Move_TO_DOCUMENT)), .val (.ref s_Modality_CONVERSE_NEXT_SIBLING), .unset, .unset] [(.ref s_Modality_CONVERSE_NEXT_SIBLING)])) (fun t k => ?_) ?_
    · show Steps p.tables e below (T215.setTop (mkF m 22 #[.val (.int p1), .val (.int (3 : Int32)), .val (.ref s_Move_CONVERSE_NEXT_SIBLING), .val (.int (frm2 s_Move_CONVERSE_NEXT_SIBLING s_Move_CONVERSE_FIRST_CHILD s_Move_CONVERSE_NEXT_SIBLING s_Move_TO_DOCUMENT)), .unset, .unset, .unset] [(.ref s_Modality_CONVERSE_NEXT_SIBLING)])) _
      refine XS.astore X215.here hx rfl (hb hby at_22) rfl rfl (l' := #[.val (.int p1), .val (.int (3 : Int32)), .val (.ref s_Move_CONVERSE_NEXT_SIBLING), .val (.int (frm2 s_Move_CONVERSE_NEXT_SIBLING s_Move_CONVERSE_FIRST_CHILD s_Move_CONVERSE_NEXT_SIBLING s_Move_TO_DOCUMENT)), .val (.ref s_Modality_CONVERSE_NEXT_SIBLING), .unset, .unset]) rfl ?_
      show Steps p.tables e below (T215.setTop (mkF m 24 #[.val (.int p1), .val (.int (3 : Int32)), .val (.ref s_Move_CONVERSE_NEXT_SIBLING), .val (.int (frm2 s_Move_CONVERSE_NEXT_SIBLING s_Move_CONVERSE_FIRST_CHILD s_Move_CONVERSE_NEXT_SIBLING s_Move_TO_DOCUMENT)), .val (.ref s_Modality_CONVERSE_NEXT_SIBLING), .unset, .unset] [])) _
      refine XS.aload X215.here hx rfl (hb hby at_24) rfl rfl ?_
      show Steps p.tables e below (T215.setTop (mkF m 26 #[.val (.int p1), .val (.int (3 : Int32)), .val (.ref s_Move_CONVERSE_NEXT_SIBLING), .val (.int (frm2 s_Move_CONVERSE_NEXT_SIBLING s_Move_CONVERSE_FIRST_CHILD s_Move_CONVERSE_NEXT_SIBLING s_Move_TO_DOCUMENT)), .val (.ref s_Modality_CONVERSE_NEXT_SIBLING), .unset, .unset] [(.ref s_Modality_CONVERSE_NEXT_SIBLING)])) _
      refine XS.ifnullNo X215.here hx rfl (hb hby at_26) rfl ?_
      show Steps p.tables e below (T215.setTop (mkF m 29 #[.val (.int p1), .val (.int (3 : Int32)), .val (.ref s_Move_CONVERSE_NEXT_SIBLING), .val (.int (frm2 s_Move_CONVERSE_NEXT_SIBLING s_Move_CONVERSE_FIRST_CHILD s_Move_CONVERSE_NEXT_SIBLING s_Move_TO_DOCUMENT)), .val (.ref s_Modality_CONVERSE_NEXT_SIBLING), .unset, .unset] [])) _
      refine XS.aload X215.here hx rfl (hb hby at_29) rfl rfl ?_
      exact k
    obtain ⟨cq216, kq216, q216a, q216b, q216c⟩ := isOf hZ e215 P44
    obtain ⟨_, _, ⟨T216, L216, k216, n216⟩, -, X216, ⟨Lc216, hQ216, l216, y216, z216⟩, st216⟩ := X215.virtualBack hx (y := (⟨"com/example/decider/decider/logic/formula/Modality", "spelling", "()Ljava/lang/String;"⟩ : MethodName)) (z := (⟨"com/example/decider/decider/logic/formula/Modality", "spelling", "()Ljava/lang/String;"⟩ : MethodName)) hown (mvT hZ (hw _ (List.mem_of_getElem? (i := 28) rfl))) (mvT hZ (hw _ (List.mem_of_getElem? (i := 29) rfl))) (notFace_of_selects (args := #[]) (mvT hZ (hw _ (List.mem_of_getElem? (i := 31) rfl)))) (mvT hZ (hw _ (List.mem_of_getElem? (i := 31) rfl))) (mvT hZ (hw _ (List.mem_of_getElem? (i := 30) rfl))) (by decide) (backOf (W := 0) (rm4 l Z a0 hw [] s_Modality_CONVERSE_NEXT_SIBLING t3 h0 n0 Z0 P45) hZ (hw _ (List.mem_of_getElem? (i := 32) rfl)) (hw _ (List.mem_of_getElem? (i := 26) rfl)) (by decide) (by decide)) q216a q216c (g := (mkF m 31 #[.val (.int p1), .val (.int (3 : Int32)), .val (.ref s_Move_CONVERSE_NEXT_SIBLING), .val (.int (frm2 s_Move_CONVERSE_NEXT_SIBLING s_Move_CONVERSE_FIRST_CHILD s_Move_CONVERSE_NEXT_SIBLING s_Move_TO_DOCUMENT)), .val (.ref s_Modality_CONVERSE_NEXT_SIBLING), .unset, .unset] [(.ref s_Modality_CONVERSE_NEXT_SIBLING)])) rfl (by rw [hml]; rfl) (Steps.refl _) (argsL := []) (rest := []) (lenOf pd_8 rfl) rfl (by show 2 * 0 + _ ≤ _; exact Nat.le_of_eq rfl) (hb hby at_31) (fun _ _ => ⟨rfl, e215, (by decide : 0 + 0 ≤ _), (by decide : 0 + 0 ≤ _)⟩)
    dsimp only [Pt.U, Pt.locs, Pt.cells, Pt.slots] at X216 l216 y216 z216 st216 hQ216
    subst l216 y216 z216
    obtain ⟨rfl, Nq216, e216⟩ := hQ216
    have N216 := Fr.app N215 Nq216
    refine own_go (A := _) (B := T216.setTop (mkF m 34 #[.val (.int p1), .val (.int (3 : Int32)), .val (.ref s_Move_CONVERSE_NEXT_SIBLING), .val (.int (frm2 s_Move_CONVERSE_NEXT_SIBLING s_Move_CONVERSE_FIRST_CHILD s_Move_CONVERSE_NEXT_SIBLING s_Move_TO_DOCUMENT)), .val (.ref s_Modality_CONVERSE_NEXT_SIBLING), .unset, .unset] [(.ref t3)])) (fun t k => st216.trans k) ?_
    refine own_go (A := T216.setTop (mkF m 34 #[.val (.int p1), .val (.int (3 : Int32)), .val (.ref s_Move_CONVERSE_NEXT_SIBLING), .val (.int (frm2 s_Move_CONVERSE_NEXT_SIBLING s_Move_CONVERSE_FIRST_CHILD s_Move_CONVERSE_NEXT_SIBLING s_Move_TO_DOCUMENT)), .val (.ref s_Modality_CONVERSE_NEXT_SIBLING), .unset, .unset] [(.ref t3)])) (B := T216.setTop (mkF m 38 #[.val (.int p1), .val (.int (3 : Int32)), .val (.ref s_Move_CONVERSE_NEXT_SIBLING), .val (.int (frm2 s_Move_CONVERSE_NEXT_SIBLING s_Move_CONVERSE_FIRST_CHILD s_Move_CONVERSE_NEXT_SIBLING s_Move_TO_DOCUMENT)), .val (.ref s_Modality_CONVERSE_NEXT_SIBLING), .unset, .val (.ref t3)] [(.ref t3)])) (fun t k => ?_) ?_
    · show Steps p.tables e below (T216.setTop (mkF m 34 #[.val (.int p1), .val (.int (3 : Int32)), .val (.ref s_Move_CONVERSE_NEXT_SIBLING), .val (.int (frm2 s_Move_CONVERSE_NEXT_SIBLING s_Move_CONVERSE_FIRST_CHILD s_Move_CONVERSE_NEXT_SIBLING s_Move_TO_DOCUMENT)), .val (.ref s_Modality_CONVERSE_NEXT_SIBLING), .unset, .unset] [(.ref t3)])) _
      refine XS.astore X216.here hx rfl (hb hby at_34) rfl rfl (l' := #[.val (.int p1), .val (.int (3 : Int32)), .val (.ref s_Move_CONVERSE_NEXT_SIBLING), .val (.int (frm2 s_Move_CONVERSE_NEXT_SIBLING s_Move_CONVERSE_FIRST_CHILD s_Move_CONVERSE_NEXT_SIBLING s_Move_TO_DOCUMENT)), .val (.ref s_Modality_CONVERSE_NEXT_SIBLING), .unset, .val (.ref t3)]) rfl ?_
      show Steps p.tables e below (T216.setTop (mkF m 36 #[.val (.int p1), .val (.int (3 : Int32)), .val (.ref s_Move_CONVERSE_NEXT_SIBLING), .val (.int (frm2 s_Move_CONVERSE_NEXT_SIBLING s_Move_CONVERSE_FIRST_CHILD s_Move_CONVERSE_NEXT_SIBLING s_Move_TO_DOCUMENT)), .val (.ref s_Modality_CONVERSE_NEXT_SIBLING), .unset, .val (.ref t3)] [])) _
      refine XS.aload X216.here hx rfl (hb hby at_36) rfl rfl ?_
      exact k
    obtain ⟨cq217, kq217, q217a, q217b, q217c⟩ := isOf hZ e216 P46
    obtain ⟨_, _, ⟨T217, L217, k217, n217⟩, -, X217, ⟨Lc217, hQ217, l217, y217, z217⟩, st217⟩ := X216.virtualBack hx (y := (⟨"java/lang/String", "length", "()I"⟩ : MethodName)) (z := (⟨"java/lang/String", "length", "()I"⟩ : MethodName)) hown (mvT hZ (hw _ (List.mem_of_getElem? (i := 35) rfl))) (mvT hZ (hw _ (List.mem_of_getElem? (i := 36) rfl))) (notFace_of_selects (args := #[]) (mvT hZ (hw _ (List.mem_of_getElem? (i := 38) rfl)))) (mvT hZ (hw _ (List.mem_of_getElem? (i := 38) rfl))) (mvT hZ (hw _ (List.mem_of_getElem? (i := 37) rfl))) (by decide) (backOf (W := 0) (rm5_4 l Z a0 hw [] t3 cs (60 : Int32) (45 : Int32) (50 : Int32) (62 : Int32) v3 kk3 h0 n0 Z0 P46 P0 P48 P47 P49 hcs) hZ (hw _ (List.mem_of_getElem? (i := 40) rfl)) (hw _ (List.mem_of_getElem? (i := 39) rfl)) (by decide) (by decide)) q217a q217c (g := (mkF m 38 #[.val (.int p1), .val (.int (3 : Int32)), .val (.ref s_Move_CONVERSE_NEXT_SIBLING), .val (.int (frm2 s_Move_CONVERSE_NEXT_SIBLING s_Move_CONVERSE_FIRST_CHILD s_Move_CONVERSE_NEXT_SIBLING s_Move_TO_DOCUMENT)), .val (.ref s_Modality_CONVERSE_NEXT_SIBLING), .unset, .val (.ref t3)] [(.ref t3)])) rfl (by rw [hml]; rfl) (Steps.refl _) (argsL := []) (rest := []) (lenOf pd_0 rfl) rfl (by show 2 * 0 + _ ≤ _; exact Nat.le_of_eq rfl) (hb hby at_38) (fun _ _ => ⟨rfl, e216, (by decide : 0 + 0 ≤ _), (by decide : 0 + 0 ≤ _)⟩)
    dsimp only [Pt.U, Pt.locs, Pt.cells, Pt.slots] at X217 l217 y217 z217 st217 hQ217
    subst l217 y217 z217
    obtain ⟨rfl, Nq217, e217⟩ := hQ217
    have N217 := Fr.app N216 Nq217
    refine own_go (A := _) (B := T217.setTop (mkF m 41 #[.val (.int p1), .val (.int (3 : Int32)), .val (.ref s_Move_CONVERSE_NEXT_SIBLING), .val (.int (frm2 s_Move_CONVERSE_NEXT_SIBLING s_Move_CONVERSE_FIRST_CHILD s_Move_CONVERSE_NEXT_SIBLING s_Move_TO_DOCUMENT)), .val (.ref s_Modality_CONVERSE_NEXT_SIBLING), .unset, .val (.ref t3)] [(.int (4 : Int32))])) (fun t k => st217.trans k) ?_
    refine own_go (A := T217.setTop (mkF m 41 #[.val (.int p1), .val (.int (3 : Int32)), .val (.ref s_Move_CONVERSE_NEXT_SIBLING), .val (.int (frm2 s_Move_CONVERSE_NEXT_SIBLING s_Move_CONVERSE_FIRST_CHILD s_Move_CONVERSE_NEXT_SIBLING s_Move_TO_DOCUMENT)), .val (.ref s_Modality_CONVERSE_NEXT_SIBLING), .unset, .val (.ref t3)] [(.int (4 : Int32))])) (B := T217.setTop (mkF m 48 #[.val (.int p1), .val (.int (3 : Int32)), .val (.ref s_Move_CONVERSE_NEXT_SIBLING), .val (.int (frm2 s_Move_CONVERSE_NEXT_SIBLING s_Move_CONVERSE_FIRST_CHILD s_Move_CONVERSE_NEXT_SIBLING s_Move_TO_DOCUMENT)), .val (.ref s_Modality_CONVERSE_NEXT_SIBLING), .unset, .val (.ref t3)] [(.int (1 : Int32)), (.ref t3)])) (fun t k => ?_) ?_
    · show Steps p.tables e below (T217.setTop (mkF m 41 #[.val (.int p1), .val (.int (3 : Int32)), .val (.ref s_Move_CONVERSE_NEXT_SIBLING), .val (.int (frm2 s_Move_CONVERSE_NEXT_SIBLING s_Move_CONVERSE_FIRST_CHILD s_Move_CONVERSE_NEXT_SIBLING s_Move_TO_DOCUMENT)), .val (.ref s_Modality_CONVERSE_NEXT_SIBLING), .unset, .val (.ref t3)] [(.int (4 : Int32))])) _
      refine XS.iconst X217.here hx rfl (hb hby at_41) ?_
      show Steps p.tables e below (T217.setTop (mkF m 42 #[.val (.int p1), .val (.int (3 : Int32)), .val (.ref s_Move_CONVERSE_NEXT_SIBLING), .val (.int (frm2 s_Move_CONVERSE_NEXT_SIBLING s_Move_CONVERSE_FIRST_CHILD s_Move_CONVERSE_NEXT_SIBLING s_Move_TO_DOCUMENT)), .val (.ref s_Modality_CONVERSE_NEXT_SIBLING), .unset, .val (.ref t3)] [(.int (1 : Int32)), (.int (4 : Int32))])) _
      refine XS.icmpNo X217.here hx rfl (hb hby at_42) rfl (tlt (by decide : ((1 : Int32) < (4 : Int32)))).2.2.2 ?_
      show Steps p.tables e below (T217.setTop (mkF m 45 #[.val (.int p1), .val (.int (3 : Int32)), .val (.ref s_Move_CONVERSE_NEXT_SIBLING), .val (.int (frm2 s_Move_CONVERSE_NEXT_SIBLING s_Move_CONVERSE_FIRST_CHILD s_Move_CONVERSE_NEXT_SIBLING s_Move_TO_DOCUMENT)), .val (.ref s_Modality_CONVERSE_NEXT_SIBLING), .unset, .val (.ref t3)] [])) _
      refine XS.aload X217.here hx rfl (hb hby at_45) rfl rfl ?_
      show Steps p.tables e below (T217.setTop (mkF m 47 #[.val (.int p1), .val (.int (3 : Int32)), .val (.ref s_Move_CONVERSE_NEXT_SIBLING), .val (.int (frm2 s_Move_CONVERSE_NEXT_SIBLING s_Move_CONVERSE_FIRST_CHILD s_Move_CONVERSE_NEXT_SIBLING s_Move_TO_DOCUMENT)), .val (.ref s_Modality_CONVERSE_NEXT_SIBLING), .unset, .val (.ref t3)] [(.ref t3)])) _
      refine XS.iconst X217.here hx rfl (hb hby at_47) ?_
      exact k
    obtain ⟨cq219, kq219, q219a, q219b, q219c⟩ := isOf hZ e217 P46
    obtain ⟨_, _, ⟨T219, L219, k219, n219⟩, -, X219, ⟨Lc219, hQ219, l219, y219, z219⟩, st219⟩ := X217.virtualBack hx (y := (⟨"java/lang/String", "charAt", "(I)C"⟩ : MethodName)) (z := (⟨"java/lang/String", "charAt", "(I)C"⟩ : MethodName)) hown (mvT hZ (hw _ (List.mem_of_getElem? (i := 51) rfl))) (mvT hZ (hw _ (List.mem_of_getElem? (i := 52) rfl))) (notFace_of_selects (args := #[]) (mvT hZ (hw _ (List.mem_of_getElem? (i := 54) rfl)))) (mvT hZ (hw _ (List.mem_of_getElem? (i := 54) rfl))) (mvT hZ (hw _ (List.mem_of_getElem? (i := 53) rfl))) (by decide) (backOf (W := 0) (rm7_4N l Z a0 hw [] t3 cs (60 : Int32) (45 : Int32) (50 : Int32) (62 : Int32) v3 kk3 h0 n0 Z0 P46 P0 P1 P48 P47 P49 hcs) hZ (hw _ (List.mem_of_getElem? (i := 55) rfl)) (hw _ (List.mem_of_getElem? (i := 39) rfl)) (by decide) (by decide)) q219a q219c (g := (mkF m 48 #[.val (.int p1), .val (.int (3 : Int32)), .val (.ref s_Move_CONVERSE_NEXT_SIBLING), .val (.int (frm2 s_Move_CONVERSE_NEXT_SIBLING s_Move_CONVERSE_FIRST_CHILD s_Move_CONVERSE_NEXT_SIBLING s_Move_TO_DOCUMENT)), .val (.ref s_Modality_CONVERSE_NEXT_SIBLING), .unset, .val (.ref t3)] [(.int (1 : Int32)), (.ref t3)])) rfl (by rw [hml]; rfl) (Steps.refl _) (argsL := [(.int (1 : Int32))]) (rest := []) (lenOf pd_9 rfl) rfl (by show 2 * 0 + _ ≤ _; exact Nat.le_of_eq rfl) (hb hby at_48) (fun _ _ => ⟨rfl, e217, (by decide : 0 + 0 ≤ _), (by decide : 0 + 0 ≤ _)⟩)
    dsimp only [Pt.U, Pt.locs, Pt.cells, Pt.slots] at X219 l219 y219 z219 st219 hQ219
    subst l219 y219 z219
    obtain ⟨rfl, Nq219, e219⟩ := hQ219
    have N219 := Fr.app N217 Nq219
    refine own_go (A := _) (B := T219.setTop (mkF m 51 #[.val (.int p1), .val (.int (3 : Int32)), .val (.ref s_Move_CONVERSE_NEXT_SIBLING), .val (.int (frm2 s_Move_CONVERSE_NEXT_SIBLING s_Move_CONVERSE_FIRST_CHILD s_Move_CONVERSE_NEXT_SIBLING s_Move_TO_DOCUMENT)), .val (.ref s_Modality_CONVERSE_NEXT_SIBLING), .unset, .val (.ref t3)] [(.int (nar .char (nar .char (((45 : Int32) &&& (255 : Int32)).toUInt32.toUInt16.toUInt32.toInt32))))])) (fun t k => st219.trans k) ?_
    refine own_go (A := T219.setTop (mkF m 51 #[.val (.int p1), .val (.int (3 : Int32)), .val (.ref s_Move_CONVERSE_NEXT_SIBLING), .val (.int (frm2 s_Move_CONVERSE_NEXT_SIBLING s_Move_CONVERSE_FIRST_CHILD s_Move_CONVERSE_NEXT_SIBLING s_Move_TO_DOCUMENT)), .val (.ref s_Modality_CONVERSE_NEXT_SIBLING), .unset, .val (.ref t3)] [(.int (nar .char (nar .char (((45 : Int32) &&& (255 : Int32)).toUInt32.toUInt16.toUInt32.toInt32))))])) (B := T219.setTop (mkF m 53 #[.val (.int p1), .val (.int (3 : Int32)), .val (.ref s_Move_CONVERSE_NEXT_SIBLING), .val (.int (frm2 s_Move_CONVERSE_NEXT_SIBLING s_Move_CONVERSE_FIRST_CHILD s_Move_CONVERSE_NEXT_SIBLING s_Move_TO_DOCUMENT)), .val (.ref s_Modality_CONVERSE_NEXT_SIBLING), .unset, .val (.ref t3)] [(.int (45 : Int32)), (.int (nar .char (nar .char (((45 : Int32) &&& (255 : Int32)).toUInt32.toUInt16.toUInt32.toInt32))))])) (fun t k => ?_) ?_
    · show Steps p.tables e below (T219.setTop (mkF m 51 #[.val (.int p1), .val (.int (3 : Int32)), .val (.ref s_Move_CONVERSE_NEXT_SIBLING), .val (.int (frm2 s_Move_CONVERSE_NEXT_SIBLING s_Move_CONVERSE_FIRST_CHILD s_Move_CONVERSE_NEXT_SIBLING s_Move_TO_DOCUMENT)), .val (.ref s_Modality_CONVERSE_NEXT_SIBLING), .unset, .val (.ref t3)] [(.int (nar .char (nar .char (((45 : Int32) &&& (255 : Int32)).toUInt32.toUInt16.toUInt32.toInt32))))])) _
      refine XS.bipush X219.here hx rfl (hb hby at_51) ?_
      exact k
    have hc53_220 : ((nar .char (nar .char (((45 : Int32) &&& (255 : Int32)).toUInt32.toUInt16.toUInt32.toInt32))) = (45 : Int32)) := by decide
    refine own_go (A := T219.setTop (mkF m 53 #[.val (.int p1), .val (.int (3 : Int32)), .val (.ref s_Move_CONVERSE_NEXT_SIBLING), .val (.int (frm2 s_Move_CONVERSE_NEXT_SIBLING s_Move_CONVERSE_FIRST_CHILD s_Move_CONVERSE_NEXT_SIBLING s_Move_TO_DOCUMENT)), .val (.ref s_Modality_CONVERSE_NEXT_SIBLING), .unset, .val (.ref t3)] [(.int (45 : Int32)), (.int (nar .char (nar .char (((45 : Int32) &&& (255 : Int32)).toUInt32.toUInt16.toUInt32.toInt32))))])) (B := T219.setTop (mkF m 81 #[.val (.int p1), .val (.int (3 : Int32)), .val (.ref s_Move_CONVERSE_NEXT_SIBLING), .val (.int (frm2 s_Move_CONVERSE_NEXT_SIBLING s_Move_CONVERSE_FIRST_CHILD s_Move_CONVERSE_NEXT_SIBLING s_Move_TO_DOCUMENT)), .val (.ref s_Modality_CONVERSE_NEXT_SIBLING), .val (.int (1 : Int32)), .val (.ref t3)] [(.ref s_Move_CONVERSE_NEXT_SIBLING)])) (fun t k => ?_) ?_
    · show Steps p.tables e below (T219.setTop (mkF m 53 #[.val (.int p1), .val (.int (3 : Int32)), .val (.ref s_Move_CONVERSE_NEXT_SIBLING), .val (.int (frm2 s_Move_CONVERSE_NEXT_SIBLING s_Move_CONVERSE_FIRST_CHILD s_Move_CONVERSE_NEXT_SIBLING s_Move_TO_DOCUMENT)), .val (.ref s_Modality_CONVERSE_NEXT_SIBLING), .unset, .val (.ref t3)] [(.int (45 : Int32)), (.int (nar .char (nar .char (((45 : Int32) &&& (255 : Int32)).toUInt32.toUInt16.toUInt32.toInt32))))])) _
      refine XS.icmpNo X219.here hx rfl (hb hby at_53) rfl (teq hc53_220).2 ?_
      show Steps p.tables e below (T219.setTop (mkF m 56 #[.val (.int p1), .val (.int (3 : Int32)), .val (.ref s_Move_CONVERSE_NEXT_SIBLING), .val (.int (frm2 s_Move_CONVERSE_NEXT_SIBLING s_Move_CONVERSE_FIRST_CHILD s_Move_CONVERSE_NEXT_SIBLING s_Move_TO_DOCUMENT)), .val (.ref s_Modality_CONVERSE_NEXT_SIBLING), .unset, .val (.ref t3)] [])) _
      refine XS.iconst X219.here hx rfl (hb hby at_56) ?_
      show Steps p.tables e below (T219.setTop (mkF m 57 #[.val (.int p1), .val (.int (3 : Int32)), .val (.ref s_Move_CONVERSE_NEXT_SIBLING), .val (.int (frm2 s_Move_CONVERSE_NEXT_SIBLING s_Move_CONVERSE_FIRST_CHILD s_Move_CONVERSE_NEXT_SIBLING s_Move_TO_DOCUMENT)), .val (.ref s_Modality_CONVERSE_NEXT_SIBLING), .unset, .val (.ref t3)] [(.int (1 : Int32))])) _
      refine XS.goto X219.here hx rfl (pc0 := 57) (pc' := 61) rfl (hb hby at_57) (by decide) (by decide) ?_
      show Steps p.tables e below (T219.setTop (mkF m 61 #[.val (.int p1), .val (.int (3 : Int32)), .val (.ref s_Move_CONVERSE_NEXT_SIBLING), .val (.int (frm2 s_Move_CONVERSE_NEXT_SIBLING s_Move_CONVERSE_FIRST_CHILD s_Move_CONVERSE_NEXT_SIBLING s_Move_TO_DOCUMENT)), .val (.ref s_Modality_CONVERSE_NEXT_SIBLING), .unset, .val (.ref t3)] [(.int (1 : Int32))])) _
      refine XS.istore X219.here hx rfl (hb hby at_61) rfl (l' := #[.val (.int p1), .val (.int (3 : Int32)), .val (.ref s_Move_CONVERSE_NEXT_SIBLING), .val (.int (frm2 s_Move_CONVERSE_NEXT_SIBLING s_Move_CONVERSE_FIRST_CHILD s_Move_CONVERSE_NEXT_SIBLING s_Move_TO_DOCUMENT)), .val (.ref s_Modality_CONVERSE_NEXT_SIBLING), .val (.int (1 : Int32)), .val (.ref t3)]) rfl ?_
      show Steps p.tables e below (T219.setTop (mkF m 63 #[.val (.int p1), .val (.int (3 : Int32)), .val (.ref s_Move_CONVERSE_NEXT_SIBLING), .val (.int (frm2 s_Move_CONVERSE_NEXT_SIBLING s_Move_CONVERSE_FIRST_CHILD s_Move_CONVERSE_NEXT_SIBLING s_Move_TO_DOCUMENT)), .val (.ref s_Modality_CONVERSE_NEXT_SIBLING), .val (.int (1 : Int32)), .val (.ref t3)] [])) _
      refine XS.goto X219.here hx rfl (pc0 := 63) (pc' := 80) rfl (hb hby at_63) (by decide) (by decide) ?_
      show Steps p.tables e below (T219.setTop (mkF m 80 #[.val (.int p1), .val (.int (3 : Int32)), .val (.ref s_Move_CONVERSE_NEXT_SIBLING), .val (.int (frm2 s_Move_CONVERSE_NEXT_SIBLING s_Move_CONVERSE_FIRST_CHILD s_Move_CONVERSE_NEXT_SIBLING s_Move_TO_DOCUMENT)), .val (.ref s_Modality_CONVERSE_NEXT_SIBLING), .val (.int (1 : Int32)), .val (.ref t3)] [])) _
      refine XS.aloadN X219.here hx rfl (hb hby at_80) rfl rfl ?_
      exact k
    obtain ⟨cq221, kq221, q221a, q221b, q221c⟩ := isOf hZ e219 P15
    obtain ⟨_, _, ⟨T221, L221, k221, n221⟩, -, X221, ⟨Lc221, hQ221, l221, y221, z221⟩, st221⟩ := X219.virtualBack hx (y := (⟨"com/example/decider/decider/library/xpath/Move", "inverse", "()Lcom/example/decider/decider/library/xpath/Move;"⟩ : MethodName)) (z := (⟨"com/example/decider/decider/library/xpath/Move", "inverse", "()Lcom/example/decider/decider/library/xpath/Move;"⟩ : MethodName)) hown (mvT hZ (hw _ (List.mem_of_getElem? (i := 73) rfl))) (mvT hZ (hw _ (List.mem_of_getElem? (i := 74) rfl))) (notFace_of_selects (args := #[]) (mvT hZ (hw _ (List.mem_of_getElem? (i := 76) rfl)))) (mvT hZ (hw _ (List.mem_of_getElem? (i := 76) rfl))) (mvT hZ (hw _ (List.mem_of_getElem? (i := 75) rfl))) (by decide) (backOf (W := 0) (rm12_3 l Z a0 hw [] s_Move_CONVERSE_NEXT_SIBLING s_Move_NEXT_SIBLING h0 n0 Z0 P15 P6 P16) hZ (hw _ (List.mem_of_getElem? (i := 77) rfl)) (hw _ (List.mem_of_getElem? (i := 6) rfl)) (by decide) (by decide)) q221a q221c (g := (mkF m 81 #[.val (.int p1), .val (.int (3 : Int32)), .val (.ref s_Move_CONVERSE_NEXT_SIBLING), .val (.int (frm2 s_Move_CONVERSE_NEXT_SIBLING s_Move_CONVERSE_FIRST_CHILD s_Move_CONVERSE_NEXT_SIBLING s_Move_TO_DOCUMENT)), .val (.ref s_Modality_CONVERSE_NEXT_SIBLING), .val (.int (1 : Int32)), .val (.ref t3)] [(.ref s_Move_CONVERSE_NEXT_SIBLING)])) rfl (by rw [hml]; rfl) (Steps.refl _) (argsL := []) (rest := []) (lenOf pd_10 rfl) rfl (by show 2 * 0 + _ ≤ _; exact Nat.le_of_eq rfl) (hb hby at_81) (fun _ _ => ⟨rfl, e219, (by decide : 0 + 0 ≤ _), (by decide : 0 + 0 ≤ _)⟩)
    dsimp only [Pt.U, Pt.locs, Pt.cells, Pt.slots] at X221 l221 y221 z221 st221 hQ221
    subst l221 y221 z221
    obtain ⟨rfl, Nq221, e221⟩ := hQ221
    have N221 := Fr.app N219 Nq221
    refine own_go (A := _) (B := T221.setTop (mkF m 84 #[.val (.int p1), .val (.int (3 : Int32)), .val (.ref s_Move_CONVERSE_NEXT_SIBLING), .val (.int (frm2 s_Move_CONVERSE_NEXT_SIBLING s_Move_CONVERSE_FIRST_CHILD s_Move_CONVERSE_NEXT_SIBLING s_Move_TO_DOCUMENT)), .val (.ref s_Modality_CONVERSE_NEXT_SIBLING), .val (.int (1 : Int32)), .val (.ref t3)] [(.ref s_Move_NEXT_SIBLING)])) (fun t k => st221.trans k) ?_
    obtain ⟨cq222, kq222, q222a, q222b, q222c⟩ := isOf hZ e221 P7
    obtain ⟨_, _, ⟨T222, L222, k222, n222⟩, -, X222, ⟨Lc222, hQ222, l222, y222, z222⟩, st222⟩ := X221.virtualBack hx (y := (⟨"com/example/decider/decider/library/xpath/Move", "upward", "()Z"⟩ : MethodName)) (z := (⟨"com/example/decider/decider/library/xpath/Move", "upward", "()Z"⟩ : MethodName)) hown (mvT hZ (hw _ (List.mem_of_getElem? (i := 8) rfl))) (mvT hZ (hw _ (List.mem_of_getElem? (i := 9) rfl))) (notFace_of_selects (args := #[]) (mvT hZ (hw _ (List.mem_of_getElem? (i := 11) rfl)))) (mvT hZ (hw _ (List.mem_of_getElem? (i := 11) rfl))) (mvT hZ (hw _ (List.mem_of_getElem? (i := 10) rfl))) (by decide) (backOf (W := 0) (rm2 l Z a0 hw [] s_Move_NEXT_SIBLING s_Move_CONVERSE_FIRST_CHILD s_Move_CONVERSE_NEXT_SIBLING s_Move_TO_DOCUMENT h0 n0 Z0 P10 P14 P18) hZ (hw _ (List.mem_of_getElem? (i := 12) rfl)) (hw _ (List.mem_of_getElem? (i := 6) rfl)) (by decide) (by decide)) q222a q222c (g := (mkF m 84 #[.val (.int p1), .val (.int (3 : Int32)), .val (.ref s_Move_CONVERSE_NEXT_SIBLING), .val (.int (frm2 s_Move_CONVERSE_NEXT_SIBLING s_Move_CONVERSE_FIRST_CHILD s_Move_CONVERSE_NEXT_SIBLING s_Move_TO_DOCUMENT)), .val (.ref s_Modality_CONVERSE_NEXT_SIBLING), .val (.int (1 : Int32)), .val (.ref t3)] [(.ref s_Move_NEXT_SIBLING)])) rfl (by rw [hml]; rfl) (Steps.refl _) (argsL := []) (rest := []) (lenOf pd_4 rfl) rfl (by show 2 * 0 + _ ≤ _; exact Nat.le_of_eq rfl) (hb hby at_84) (fun _ _ => ⟨rfl, e221, (by decide : 0 + 0 ≤ _), (by decide : 0 + 0 ≤ _)⟩)
    dsimp only [Pt.U, Pt.locs, Pt.cells, Pt.slots] at X222 l222 y222 z222 st222 hQ222
    subst l222 y222 z222
    obtain ⟨rfl, Nq222, e222⟩ := hQ222
    have N222 := Fr.app N221 Nq222
    refine own_go (A := _) (B := T222.setTop (mkF m 87 #[.val (.int p1), .val (.int (3 : Int32)), .val (.ref s_Move_CONVERSE_NEXT_SIBLING), .val (.int (frm2 s_Move_CONVERSE_NEXT_SIBLING s_Move_CONVERSE_FIRST_CHILD s_Move_CONVERSE_NEXT_SIBLING s_Move_TO_DOCUMENT)), .val (.ref s_Modality_CONVERSE_NEXT_SIBLING), .val (.int (1 : Int32)), .val (.ref t3)] [(.int (frm2 s_Move_NEXT_SIBLING s_Move_CONVERSE_FIRST_CHILD s_Move_CONVERSE_NEXT_SIBLING s_Move_TO_DOCUMENT))])) (fun t k => st222.trans k) ?_
    refine own_go (A := T222.setTop (mkF m 87 #[.val (.int p1), .val (.int (3 : Int32)), .val (.ref s_Move_CONVERSE_NEXT_SIBLING), .val (.int (frm2 s_Move_CONVERSE_NEXT_SIBLING s_Move_CONVERSE_FIRST_CHILD s_Move_CONVERSE_NEXT_SIBLING s_Move_TO_DOCUMENT)), .val (.ref s_Modality_CONVERSE_NEXT_SIBLING), .val (.int (1 : Int32)), .val (.ref t3)] [(.int (frm2 s_Move_NEXT_SIBLING s_Move_CONVERSE_FIRST_CHILD s_Move_CONVERSE_NEXT_SIBLING s_Move_TO_DOCUMENT))])) (B := T222.setTop (mkF m 92 #[.val (.int p1), .val (.int (3 : Int32)), .val (.ref s_Move_CONVERSE_NEXT_SIBLING), .val (.int (frm2 s_Move_CONVERSE_NEXT_SIBLING s_Move_CONVERSE_FIRST_CHILD s_Move_CONVERSE_NEXT_SIBLING s_Move_TO_DOCUMENT)), .val (.ref s_Modality_CONVERSE_NEXT_SIBLING), .val (.int (1 : Int32)), .val (.int (frm2 s_Move_NEXT_SIBLING s_Move_CONVERSE_FIRST_CHILD s_Move_CONVERSE_NEXT_SIBLING s_Move_TO_DOCUMENT))] [(.int (1 : Int32)), (.int (frm2 s_Move_CONVERSE_NEXT_SIBLING s_Move_CONVERSE_FIRST_CHILD s_Move_CONVERSE_NEXT_SIBLING s_Move_TO_DOCUMENT))])) (fun t k => ?_) ?_
    · show Steps p.tables e below (T222.setTop (mkF m 87 #[.val (.int p1), .val (.int (3 : Int32)), .val (.ref s_Move_CONVERSE_NEXT_SIBLING), .val (.int (frm2 s_Move_CONVERSE_NEXT_SIBLING s_Move_CONVERSE_FIRST_CHILD s_Move_CONVERSE_NEXT_SIBLING s_Move_TO_DOCUMENT)), .val (.ref s_Modality_CONVERSE_NEXT_SIBLING), .val (.int (1 : Int32)), .val (.ref t3)] [(.int (frm2 s_Move_NEXT_SIBLING s_Move_CONVERSE_FIRST_CHILD s_Move_CONVERSE_NEXT_SIBLING s_Move_TO_DOCUMENT))])) _
      refine XS.istore X222.here hx rfl (hb hby at_87) rfl (l' := #[.val (.int p1), .val (.int (3 : Int32)), .val (.ref s_Move_CONVERSE_NEXT_SIBLING), .val (.int (frm2 s_Move_CONVERSE_NEXT_SIBLING s_Move_CONVERSE_FIRST_CHILD s_Move_CONVERSE_NEXT_SIBLING s_Move_TO_DOCUMENT)), .val (.ref s_Modality_CONVERSE_NEXT_SIBLING), .val (.int (1 : Int32)), .val (.int (frm2 s_Move_NEXT_SIBLING s_Move_CONVERSE_FIRST_CHILD s_Move_CONVERSE_NEXT_SIBLING s_Move_TO_DOCUMENT))]) rfl ?_
      show Steps p.tables e below (T222.setTop (mkF m 89 #[.val (.int p1), .val (.int (3 : Int32)), .val (.ref s_Move_CONVERSE_NEXT_SIBLING), .val (.int (frm2 s_Move_CONVERSE_NEXT_SIBLING s_Move_CONVERSE_FIRST_CHILD s_Move_CONVERSE_NEXT_SIBLING s_Move_TO_DOCUMENT)), .val (.ref s_Modality_CONVERSE_NEXT_SIBLING), .val (.int (1 : Int32)), .val (.int (frm2 s_Move_NEXT_SIBLING s_Move_CONVERSE_FIRST_CHILD s_Move_CONVERSE_NEXT_SIBLING s_Move_TO_DOCUMENT))] [])) _
      refine XS.iloadN X222.here hx rfl (hb hby at_89) rfl ?_
      show Steps p.tables e below (T222.setTop (mkF m 90 #[.val (.int p1), .val (.int (3 : Int32)), .val (.ref s_Move_CONVERSE_NEXT_SIBLING), .val (.int (frm2 s_Move_CONVERSE_NEXT_SIBLING s_Move_CONVERSE_FIRST_CHILD s_Move_CONVERSE_NEXT_SIBLING s_Move_TO_DOCUMENT)), .val (.ref s_Modality_CONVERSE_NEXT_SIBLING), .val (.int (1 : Int32)), .val (.int (frm2 s_Move_NEXT_SIBLING s_Move_CONVERSE_FIRST_CHILD s_Move_CONVERSE_NEXT_SIBLING s_Move_TO_DOCUMENT))] [(.int (frm2 s_Move_CONVERSE_NEXT_SIBLING s_Move_CONVERSE_FIRST_CHILD s_Move_CONVERSE_NEXT_SIBLING s_Move_TO_DOCUMENT))])) _
      refine XS.iload X222.here hx rfl (hb hby at_90) rfl ?_
      exact k
    have hc92_223 : ((frm2 s_Move_CONVERSE_NEXT_SIBLING s_Move_CONVERSE_FIRST_CHILD s_Move_CONVERSE_NEXT_SIBLING s_Move_TO_DOCUMENT) = (1 : Int32)) := by simp [frm2, ne_s_Move_NEXT_SIBLING_s_Move_CONVERSE_FIRST_CHILD, ne_s_Move_NEXT_SIBLING_s_Move_CONVERSE_NEXT_SIBLING, ne_s_Move_NEXT_SIBLING_s_Move_TO_DOCUMENT, ne_s_Move_CONVERSE_NEXT_SIBLING_s_Move_CONVERSE_FIRST_CHILD]
    refine own_go (A := T222.setTop (mkF m 92 #[.val (.int p1), .val (.int (3 : Int32)), .val (.ref s_Move_CONVERSE_NEXT_SIBLING), .val (.int (frm2 s_Move_CONVERSE_NEXT_SIBLING s_Move_CONVERSE_FIRST_CHILD s_Move_CONVERSE_NEXT_SIBLING s_Move_TO_DOCUMENT)), .val (.ref s_Modality_CONVERSE_NEXT_SIBLING), .val (.int (1 : Int32)), .val (.int (frm2 s_Move_NEXT_SIBLING s_Move_CONVERSE_FIRST_CHILD s_Move_CONVERSE_NEXT_SIBLING s_Move_TO_DOCUMENT))] [(.int (1 : Int32)), (.int (frm2 s_Move_CONVERSE_NEXT_SIBLING s_Move_CONVERSE_FIRST_CHILD s_Move_CONVERSE_NEXT_SIBLING s_Move_TO_DOCUMENT))])) (B := T222.setTop (mkF m 98 #[.val (.int p1), .val (.int (3 : Int32)), .val (.ref s_Move_CONVERSE_NEXT_SIBLING), .val (.int (frm2 s_Move_CONVERSE_NEXT_SIBLING s_Move_CONVERSE_FIRST_CHILD s_Move_CONVERSE_NEXT_SIBLING s_Move_TO_DOCUMENT)), .val (.ref s_Modality_CONVERSE_NEXT_SIBLING), .val (.int (1 : Int32)), .val (.int (frm2 s_Move_NEXT_SIBLING s_Move_CONVERSE_FIRST_CHILD s_Move_CONVERSE_NEXT_SIBLING s_Move_TO_DOCUMENT))] [(.int (frm2 s_Move_NEXT_SIBLING s_Move_CONVERSE_FIRST_CHILD s_Move_CONVERSE_NEXT_SIBLING s_Move_TO_DOCUMENT)), (.int (frm2 s_Move_CONVERSE_NEXT_SIBLING s_Move_CONVERSE_FIRST_CHILD s_Move_CONVERSE_NEXT_SIBLING s_Move_TO_DOCUMENT))])) (fun t k => ?_) ?_
    · show Steps p.tables e below (T222.setTop (mkF m 92 #[.val (.int p1), .val (.int (3 : Int32)), .val (.ref s_Move_CONVERSE_NEXT_SIBLING), .val (.int (frm2 s_Move_CONVERSE_NEXT_SIBLING s_Move_CONVERSE_FIRST_CHILD s_Move_CONVERSE_NEXT_SIBLING s_Move_TO_DOCUMENT)), .val (.ref s_Modality_CONVERSE_NEXT_SIBLING), .val (.int (1 : Int32)), .val (.int (frm2 s_Move_NEXT_SIBLING s_Move_CONVERSE_FIRST_CHILD s_Move_CONVERSE_NEXT_SIBLING s_Move_TO_DOCUMENT))] [(.int (1 : Int32)), (.int (frm2 s_Move_CONVERSE_NEXT_SIBLING s_Move_CONVERSE_FIRST_CHILD s_Move_CONVERSE_NEXT_SIBLING s_Move_TO_DOCUMENT))])) _
      refine XS.icmpNo X222.here hx rfl (hb hby at_92) rfl (teq hc92_223).2 ?_
      show Steps p.tables e below (T222.setTop (mkF m 95 #[.val (.int p1), .val (.int (3 : Int32)), .val (.ref s_Move_CONVERSE_NEXT_SIBLING), .val (.int (frm2 s_Move_CONVERSE_NEXT_SIBLING s_Move_CONVERSE_FIRST_CHILD s_Move_CONVERSE_NEXT_SIBLING s_Move_TO_DOCUMENT)), .val (.ref s_Modality_CONVERSE_NEXT_SIBLING), .val (.int (1 : Int32)), .val (.int (frm2 s_Move_NEXT_SIBLING s_Move_CONVERSE_FIRST_CHILD s_Move_CONVERSE_NEXT_SIBLING s_Move_TO_DOCUMENT))] [])) _
      refine XS.iloadN X222.here hx rfl (hb hby at_95) rfl ?_
      show Steps p.tables e below (T222.setTop (mkF m 96 #[.val (.int p1), .val (.int (3 : Int32)), .val (.ref s_Move_CONVERSE_NEXT_SIBLING), .val (.int (frm2 s_Move_CONVERSE_NEXT_SIBLING s_Move_CONVERSE_FIRST_CHILD s_Move_CONVERSE_NEXT_SIBLING s_Move_TO_DOCUMENT)), .val (.ref s_Modality_CONVERSE_NEXT_SIBLING), .val (.int (1 : Int32)), .val (.int (frm2 s_Move_NEXT_SIBLING s_Move_CONVERSE_FIRST_CHILD s_Move_CONVERSE_NEXT_SIBLING s_Move_TO_DOCUMENT))] [(.int (frm2 s_Move_CONVERSE_NEXT_SIBLING s_Move_CONVERSE_FIRST_CHILD s_Move_CONVERSE_NEXT_SIBLING s_Move_TO_DOCUMENT))])) _
      refine XS.iload X222.here hx rfl (hb hby at_96) rfl ?_
      exact k
    have hc98_224 : ¬ ((frm2 s_Move_CONVERSE_NEXT_SIBLING s_Move_CONVERSE_FIRST_CHILD s_Move_CONVERSE_NEXT_SIBLING s_Move_TO_DOCUMENT) = (frm2 s_Move_NEXT_SIBLING s_Move_CONVERSE_FIRST_CHILD s_Move_CONVERSE_NEXT_SIBLING s_Move_TO_DOCUMENT)) := by simp [frm2, ne_s_Move_NEXT_SIBLING_s_Move_CONVERSE_FIRST_CHILD, ne_s_Move_NEXT_SIBLING_s_Move_CONVERSE_NEXT_SIBLING, ne_s_Move_NEXT_SIBLING_s_Move_TO_DOCUMENT, ne_s_Move_CONVERSE_NEXT_SIBLING_s_Move_CONVERSE_FIRST_CHILD]
    refine own_go (A := T222.setTop (mkF m 98 #[.val (.int p1), .val (.int (3 : Int32)), .val (.ref s_Move_CONVERSE_NEXT_SIBLING), .val (.int (frm2 s_Move_CONVERSE_NEXT_SIBLING s_Move_CONVERSE_FIRST_CHILD s_Move_CONVERSE_NEXT_SIBLING s_Move_TO_DOCUMENT)), .val (.ref s_Modality_CONVERSE_NEXT_SIBLING), .val (.int (1 : Int32)), .val (.int (frm2 s_Move_NEXT_SIBLING s_Move_CONVERSE_FIRST_CHILD s_Move_CONVERSE_NEXT_SIBLING s_Move_TO_DOCUMENT))] [(.int (frm2 s_Move_NEXT_SIBLING s_Move_CONVERSE_FIRST_CHILD s_Move_CONVERSE_NEXT_SIBLING s_Move_TO_DOCUMENT)), (.int (frm2 s_Move_CONVERSE_NEXT_SIBLING s_Move_CONVERSE_FIRST_CHILD s_Move_CONVERSE_NEXT_SIBLING s_Move_TO_DOCUMENT))])) (B := T222.setTop (mkF m 106 #[.val (.int p1), .val (.int (3 : Int32)), .val (.ref s_Move_CONVERSE_NEXT_SIBLING), .val (.int (frm2 s_Move_CONVERSE_NEXT_SIBLING s_Move_CONVERSE_FIRST_CHILD s_Move_CONVERSE_NEXT_SIBLING s_Move_TO_DOCUMENT)), .val (.ref s_Modality_CONVERSE_NEXT_SIBLING), .val (.int (1 : Int32)), .val (.int (frm2 s_Move_NEXT_SIBLING s_Move_CONVERSE_FIRST_CHILD s_Move_CONVERSE_NEXT_SIBLING s_Move_TO_DOCUMENT))] [(.int (1 : Int32))])) (fun t k => ?_) ?_
    · show Steps p.tables e below (T222.setTop (mkF m 98 #[.val (.int p1), .val (.int (3 : Int32)), .val (.ref s_Move_CONVERSE_NEXT_SIBLING), .val (.int (frm2 s_Move_CONVERSE_NEXT_SIBLING s_Move_CONVERSE_FIRST_CHILD s_Move_CONVERSE_NEXT_SIBLING s_Move_TO_DOCUMENT)), .val (.ref s_Modality_CONVERSE_NEXT_SIBLING), .val (.int (1 : Int32)), .val (.int (frm2 s_Move_NEXT_SIBLING s_Move_CONVERSE_FIRST_CHILD s_Move_CONVERSE_NEXT_SIBLING s_Move_TO_DOCUMENT))] [(.int (frm2 s_Move_NEXT_SIBLING s_Move_CONVERSE_FIRST_CHILD s_Move_CONVERSE_NEXT_SIBLING s_Move_TO_DOCUMENT)), (.int (frm2 s_Move_CONVERSE_NEXT_SIBLING s_Move_CONVERSE_FIRST_CHILD s_Move_CONVERSE_NEXT_SIBLING s_Move_TO_DOCUMENT))])) _
      refine XS.icmpNo X222.here hx rfl (hb hby at_98) rfl (feq hc98_224).1 ?_
      show Steps p.tables e below (T222.setTop (mkF m 101 #[.val (.int p1), .val (.int (3 : Int32)), .val (.ref s_Move_CONVERSE_NEXT_SIBLING), .val (.int (frm2 s_Move_CONVERSE_NEXT_SIBLING s_Move_CONVERSE_FIRST_CHILD s_Move_CONVERSE_NEXT_SIBLING s_Move_TO_DOCUMENT)), .val (.ref s_Modality_CONVERSE_NEXT_SIBLING), .val (.int (1 : Int32)), .val (.int (frm2 s_Move_NEXT_SIBLING s_Move_CONVERSE_FIRST_CHILD s_Move_CONVERSE_NEXT_SIBLING s_Move_TO_DOCUMENT))] [])) _
      refine XS.iconst X222.here hx rfl (hb hby at_101) ?_
      show Steps p.tables e below (T222.setTop (mkF m 102 #[.val (.int p1), .val (.int (3 : Int32)), .val (.ref s_Move_CONVERSE_NEXT_SIBLING), .val (.int (frm2 s_Move_CONVERSE_NEXT_SIBLING s_Move_CONVERSE_FIRST_CHILD s_Move_CONVERSE_NEXT_SIBLING s_Move_TO_DOCUMENT)), .val (.ref s_Modality_CONVERSE_NEXT_SIBLING), .val (.int (1 : Int32)), .val (.int (frm2 s_Move_NEXT_SIBLING s_Move_CONVERSE_FIRST_CHILD s_Move_CONVERSE_NEXT_SIBLING s_Move_TO_DOCUMENT))] [(.int (1 : Int32))])) _
      refine XS.goto X222.here hx rfl (pc0 := 102) (pc' := 106) rfl (hb hby at_102) (by decide) (by decide) ?_
      exact k
    obtain ⟨fs, hr, hrun, hended, hW, hsame⟩ := X222.leave (v := some (.int (1 : Int32))) (fun h => by rw [Bd.returns] at h; cases h)
    refine ⟨_, _, ?_, hrun, hended, _, _, rfl, ?_, ⟨_, rfl⟩, hW, hsame.mono (by decide) (by decide)⟩
    · show Steps p.tables e below (T222.setTop (mkF m 106 #[.val (.int p1), .val (.int (3 : Int32)), .val (.ref s_Move_CONVERSE_NEXT_SIBLING), .val (.int (frm2 s_Move_CONVERSE_NEXT_SIBLING s_Move_CONVERSE_FIRST_CHILD s_Move_CONVERSE_NEXT_SIBLING s_Move_TO_DOCUMENT)), .val (.ref s_Modality_CONVERSE_NEXT_SIBLING), .val (.int (1 : Int32)), .val (.int (frm2 s_Move_NEXT_SIBLING s_Move_CONVERSE_FIRST_CHILD s_Move_CONVERSE_NEXT_SIBLING s_Move_TO_DOCUMENT))] [(.int (1 : Int32))])) _
      exact retN X222 hx (t := .boolean) Bd.returns (by simp) (hb hby at_106) hr
    · show Qrm0N Z p1 cs s_Move_FIRST_CHILD s_Move_NEXT_SIBLING s_Move_CONVERSE_FIRST_CHILD s_Move_CONVERSE_NEXT_SIBLING s_Move_TO_DOCUMENT s_Move_FROM_DOCUMENT s_Modality_FIRST_CHILD t0 v0 kk0 s_Modality_NEXT_SIBLING t1 v1 kk1 s_Modality_CONVERSE_FIRST_CHILD t2 v2 kk2 s_Modality_CONVERSE_NEXT_SIBLING t3 v3 kk3 h0 n0 _ T222.heap _
      rw [e222]
      exact ⟨rfl, N222⟩
  · rw [hk176]
    refine own_go (A := s₁.setTop (mkF m 7 #[.val (.int p1), .unset, .unset, .unset, .unset, .unset, .unset] [(.int (4 : Int32))])) (B := s₁.setTop (mkF m 9 #[.val (.int p1), .val (.int (4 : Int32)), .unset, .unset, .unset, .unset, .unset] [(.int (4 : Int32))])) (fun t k => ?_) ?_
    · show Steps p.tables e below (s₁.setTop (mkF m 7 #[.val (.int p1), .unset, .unset, .unset, .unset, .unset, .unset] [(.int (4 : Int32))])) _
      refine XS.istoreN X0.here hx rfl (hb hby at_7) rfl (l' := #[.val (.int p1), .val (.int (4 : Int32)), .unset, .unset, .unset, .unset, .unset]) rfl ?_
      show Steps p.tables e below (s₁.setTop (mkF m 8 #[.val (.int p1), .val (.int (4 : Int32)), .unset, .unset, .unset, .unset, .unset] [])) _
      refine XS.iloadN X0.here hx rfl (hb hby at_8) rfl ?_
      exact k
    obtain ⟨_, _, ⟨T225, L225, k225, n225⟩, -, X225, ⟨Lc225, hQ225, l225, y225, z225⟩, st225⟩ := Jvm.LawKit.callS X0 hx (y := (⟨"com/example/decider/decider/library/xpath/MoveUpwardPinLaw", "pick", "(I)Lcom/example/decider/decider/library/xpath/Move;"⟩ : MethodName)) hown (mvT hZ (hw _ (List.mem_of_getElem? (i := 1) rfl))) (mvT hZ (hw _ (List.mem_of_getElem? (i := 2) rfl))) (mvT hZ (hw _ (List.mem_of_getElem? (i := 3) rfl))) (mvT hZ (hw _ (List.mem_of_getElem? (i := 4) rfl))) (by decide) (backOf (W := 0) (rm1_4 l Z a0 hw [] s_Move_TO_DOCUMENT h0 n0 Z0 P18) hZ (hw _ (List.mem_of_getElem? (i := 4) rfl)) (hw _ (List.mem_of_getElem? (i := 3) rfl)) (by decide) (by decide)) (g := (mkF m 9 #[.val (.int p1), .val (.int (4 : Int32)), .unset, .unset, .unset, .unset, .unset] [(.int (4 : Int32))])) rfl (by rw [hml]; rfl) (argsL := [(.int (4 : Int32))]) (rest := []) (lenOf pd_6 rfl) rfl (by show 2 * 0 + _ ≤ _; exact Nat.le_of_eq rfl) (hb hby at_9) (fun _ _ => ⟨rfl, e0, (by decide : 0 + 0 ≤ _), (by decide : 0 + 0 ≤ _)⟩)
    dsimp only [Pt.U, Pt.locs, Pt.cells, Pt.slots] at X225 l225 y225 z225 st225 hQ225
    subst l225 y225 z225
    obtain ⟨rfl, Nq225, e225⟩ := hQ225
    have N225 := Fr.app N0 Nq225
    refine own_go (A := _) (B := T225.setTop (mkF m 12 #[.val (.int p1), .val (.int (4 : Int32)), .unset, .unset, .unset, .unset, .unset] [(.ref s_Move_TO_DOCUMENT)])) st225 ?_
    refine own_go (A := T225.setTop (mkF m 12 #[.val (.int p1), .val (.int (4 : Int32)), .unset, .unset, .unset, .unset, .unset] [(.ref s_Move_TO_DOCUMENT)])) (B := T225.setTop (mkF m 14 #[.val (.int p1), .val (.int (4 : Int32)), .val (.ref s_Move_TO_DOCUMENT), .unset, .unset, .unset, .unset] [(.ref s_Move_TO_DOCUMENT)])) (fun t k => ?_) ?_
    · show Steps p.tables e below (T225.setTop (mkF m 12 #[.val (.int p1), .val (.int (4 : Int32)), .unset, .unset, .unset, .unset, .unset] [(.ref s_Move_TO_DOCUMENT)])) _
      refine XS.astoreN X225.here hx rfl (hb hby at_12) rfl rfl (l' := #[.val (.int p1), .val (.int (4 : Int32)), .val (.ref s_Move_TO_DOCUMENT), .unset, .unset, .unset, .unset]) rfl ?_
      show Steps p.tables e below (T225.setTop (mkF m 13 #[.val (.int p1), .val (.int (4 : Int32)), .val (.ref s_Move_TO_DOCUMENT), .unset, .unset, .unset, .unset] [])) _
      refine XS.aloadN X225.here hx rfl (hb hby at_13) rfl rfl ?_
      exact k
    obtain ⟨cq226, kq226, q226a, q226b, q226c⟩ := isOf hZ e225 P19
    obtain ⟨_, _, ⟨T226, L226, k226, n226⟩, -, X226, ⟨Lc226, hQ226, l226, y226, z226⟩, st226⟩ := X225.virtualBack hx (y := (⟨"com/example/decider/decider/library/xpath/Move", "upward", "()Z"⟩ : MethodName)) (z := (⟨"com/example/decider/decider/library/xpath/Move", "upward", "()Z"⟩ : MethodName)) hown (mvT hZ (hw _ (List.mem_of_getElem? (i := 8) rfl))) (mvT hZ (hw _ (List.mem_of_getElem? (i := 9) rfl))) (notFace_of_selects (args := #[]) (mvT hZ (hw _ (List.mem_of_getElem? (i := 11) rfl)))) (mvT hZ (hw _ (List.mem_of_getElem? (i := 11) rfl))) (mvT hZ (hw _ (List.mem_of_getElem? (i := 10) rfl))) (by decide) (backOf (W := 0) (rm2 l Z a0 hw [] s_Move_TO_DOCUMENT s_Move_CONVERSE_FIRST_CHILD s_Move_CONVERSE_NEXT_SIBLING s_Move_TO_DOCUMENT h0 n0 Z0 P10 P14 P18) hZ (hw _ (List.mem_of_getElem? (i := 12) rfl)) (hw _ (List.mem_of_getElem? (i := 6) rfl)) (by decide) (by decide)) q226a q226c (g := (mkF m 14 #[.val (.int p1), .val (.int (4 : Int32)), .val (.ref s_Move_TO_DOCUMENT), .unset, .unset, .unset, .unset] [(.ref s_Move_TO_DOCUMENT)])) rfl (by rw [hml]; rfl) (Steps.refl _) (argsL := []) (rest := []) (lenOf pd_4 rfl) rfl (by show 2 * 0 + _ ≤ _; exact Nat.le_of_eq rfl) (hb hby at_14) (fun _ _ => ⟨rfl, e225, (by decide : 0 + 0 ≤ _), (by decide : 0 + 0 ≤ _)⟩)
    dsimp only [Pt.U, Pt.locs, Pt.cells, Pt.slots] at X226 l226 y226 z226 st226 hQ226
    subst l226 y226 z226
    obtain ⟨rfl, Nq226, e226⟩ := hQ226
    have N226 := Fr.app N225 Nq226
    refine own_go (A := _) (B := T226.setTop (mkF m 17 #[.val (.int p1), .val (.int (4 : Int32)), .val (.ref s_Move_TO_DOCUMENT), .unset, .unset, .unset, .unset] [(.int (frm2 s_Move_TO_DOCUMENT s_Move_CONVERSE_FIRST_CHILD s_Move_CONVERSE_NEXT_SIBLING s_Move_TO_DOCUMENT))])) (fun t k => st226.trans k) ?_
    refine own_go (A := T226.setTop (mkF m 17 #[.val (.int p1), .val (.int (4 : Int32)), .val (.ref s_Move_TO_DOCUMENT), .unset, .unset, .unset, .unset] [(.int (frm2 s_Move_TO_DOCUMENT s_Move_CONVERSE_FIRST_CHILD s_Move_CONVERSE_NEXT_SIBLING s_Move_TO_DOCUMENT))])) (B := T226.setTop (mkF m 19 #[.val (.int p1), .val (.int (4 : Int32)), .val (.ref s_Move_TO_DOCUMENT), .val (.int (frm2 s_Move_TO_DOCUMENT s_Move_CONVERSE_FIRST_CHILD s_Move_CONVERSE_NEXT_SIBLING s_Move_TO_DOCUMENT)), .unset, .unset, .unset] [(.ref s_Move_TO_DOCUMENT)])) (fun t k => ?_) ?_
    · show Steps p.tables e below (T226.setTop (mkF m 17 #[.val (.int p1), .val (.int (4 : Int32)), .val (.ref s_Move_TO_DOCUMENT), .unset, .unset, .unset, .unset] [(.int (frm2 s_Move_TO_DOCUMENT s_Move_CONVERSE_FIRST_CHILD s_Move_CONVERSE_NEXT_SIBLING s_Move_TO_DOCUMENT))])) _
      refine XS.istoreN X226.here hx rfl (hb hby at_17) rfl (l' := #[.val (.int p1), .val (.int (4 : Int32)), .val (.ref s_Move_TO_DOCUMENT), .val (.int (frm2 s_Move_TO_DOCUMENT s_Move_CONVERSE_FIRST_CHILD s_Move_CONVERSE_NEXT_SIBLING s_Move_TO_DOCUMENT)), .unset, .unset, .unset]) rfl ?_
      show Steps p.tables e below (T226.setTop (mkF m 18 #[.val (.int p1), .val (.int (4 : Int32)), .val (.ref s_Move_TO_DOCUMENT), .val (.int (frm2 s_Move_TO_DOCUMENT s_Move_CONVERSE_FIRST_CHILD s_Move_CONVERSE_NEXT_SIBLING s_Move_TO_DOCUMENT)), .unset, .unset, .unset] [])) _
      refine XS.aloadN X226.here hx rfl (hb hby at_18) rfl rfl ?_
      exact k
    obtain ⟨cq227, kq227, q227a, q227b, q227c⟩ := isOf hZ e226 P19
    obtain ⟨_, _, ⟨T227, L227, k227, n227⟩, -, X227, ⟨Lc227, hQ227, l227, y227, z227⟩, st227⟩ := X226.virtualBack hx (y := (⟨"com/example/decider/decider/library/xpath/Move", "modality", "()Lcom/example/decider/decider/logic/formula/Modality;"⟩ : MethodName)) (z := (⟨"com/example/decider/decider/library/xpath/Move", "modality", "()Lcom/example/decider/decider/logic/formula/Modality;"⟩ : MethodName)) hown (mvT hZ (hw _ (List.mem_of_getElem? (i := 19) rfl))) (mvT hZ (hw _ (List.mem_of_getElem? (i := 20) rfl))) (notFace_of_selects (args := #[]) (mvT hZ (hw _ (List.mem_of_getElem? (i := 22) rfl)))) (mvT hZ (hw _ (List.mem_of_getElem? (i := 22) rfl))) (mvT hZ (hw _ (List.mem_of_getElem? (i := 21) rfl))) (by decide) (backOf (W := 0) (rm3n l Z a0 hw [] s_Move_TO_DOCUMENT h0 n0 Z0 P21) hZ (hw _ (List.mem_of_getElem? (i := 23) rfl)) (hw _ (List.mem_of_getElem? (i := 6) rfl)) (by decide) (by decide)) q227a q227c (g := (mkF m 19 #[.val (.int p1), .val (.int (4 : Int32)), .val (.ref s_Move_TO_DOCUMENT), .val (.int (frm2 s_Move_TO_DOCUMENT s_Move_CONVERSE_FIRST_CHILD s_Move_CONVERSE_NEXT_SIBLING s_Move_TO_DOCUMENT)), .unset, .unset, .unset] [(.ref s_Move_TO_DOCUMENT)])) rfl (by rw [hml]; rfl) (Steps.refl _) (argsL := []) (rest := []) (lenOf pd_7 rfl) rfl (by show 2 * 0 + _ ≤ _; exact Nat.le_of_eq rfl) (hb hby at_19) (fun _ _ => ⟨rfl, e226, (by decide : 0 + 0 ≤ _), (by decide : 0 + 0 ≤ _)⟩)
    dsimp only [Pt.U, Pt.locs, Pt.cells, Pt.slots] at X227 l227 y227 z227 st227 hQ227
    subst l227 y227 z227
    obtain ⟨rfl, Nq227, e227⟩ := hQ227
    have N227 := Fr.app N226 Nq227
    refine own_go (A := _) (B := T227.setTop (mkF m 22 #[.val (.int p1), .val (.int (4 : Int32)), .val (.ref s_Move_TO_DOCUMENT), .val (.int (frm2 s_Move_TO_DOCUMENT s_Move_CONVERSE_FIRST_CHILD s_Move_CONVERSE_NEXT_SIBLING s_Move_TO_DOCUMENT)), .unset, .unset, .unset] [.null])) (fun t k => st227.trans k) ?_
    refine own_go (A := T227.setTop (mkF m 22 #[.val (.int p1), .val (.int (4 : Int32)), .val (.ref s_Move_TO_DOCUMENT), .val (.int (frm2 s_Move_TO_DOCUMENT s_Move_CONVERSE_FIRST_CHILD s_Move_CONVERSE_NEXT_SIBLING s_Move_TO_DOCUMENT)), .unset, .unset, .unset] [.null])) (B := T227.setTop (mkF m 67 #[.val (.int p1), .val (.int (4 : Int32)), .val (.ref s_Move_TO_DOCUMENT), .val (.int (frm2 s_Move_TO_DOCUMENT s_Move_CONVERSE_FIRST_CHILD s_Move_CONVERSE_NEXT_SIBLING s_Move_TO_DOCUMENT)), .val .null, .unset, .unset] [(.ref s_Move_TO_DOCUMENT)])) (fun t k => ?_) ?_
    · show Steps p.tables e below (T227.setTop (mkF m 22 #[.val (.int p1), .val (.int (4 : Int32)), .val (.ref s_Move_TO_DOCUMENT), .val (.int (frm2 s_Move_TO_DOCUMENT s_Move_CONVERSE_FIRST_CHILD s_Move_CONVERSE_NEXT_SIBLING s_Move_TO_DOCUMENT)), .unset, .unset, .unset] [.null])) _
      refine XS.astore X227.here hx rfl (hb hby at_22) rfl rfl (l' := #[.val (.int p1), .val (.int (4 : Int32)), .val (.ref s_Move_TO_DOCUMENT), .val (.int (frm2 s_Move_TO_DOCUMENT s_Move_CONVERSE_FIRST_CHILD s_Move_CONVERSE_NEXT_SIBLING s_Move_TO_DOCUMENT)), .val .null, .unset, .unset]) rfl ?_
      show Steps p.tables e below (T227.setTop (mkF m 24 #[.val (.int p1), .val (.int (4 : Int32)), .val (.ref s_Move_TO_DOCUMENT), .val (.int (frm2 s_Move_TO_DOCUMENT s_Move_CONVERSE_FIRST_CHILD s_Move_CONVERSE_NEXT_SIBLING s_Move_TO_DOCUMENT)), .val .null, .unset, .unset] [])) _
      refine XS.aload X227.here hx rfl (hb hby at_24) rfl rfl ?_
      show Steps p.tables e below (T227.setTop (mkF m 26 #[.val (.int p1), .val (.int (4 : Int32)), .val (.ref s_Move_TO_DOCUMENT), .val (.int (frm2 s_Move_TO_DOCUMENT s_Move_CONVERSE_FIRST_CHILD s_Move_CONVERSE_NEXT_SIBLING s_Move_TO_DOCUMENT)), .val .null, .unset, .unset] [.null])) _
      refine XS.ifnullYes X227.here hx rfl (pc0 := 26) (pc' := 66) rfl (hb hby at_26) rfl (by decide) (by decide) ?_
      show Steps p.tables e below (T227.setTop (mkF m 66 #[.val (.int p1), .val (.int (4 : Int32)), .val (.ref s_Move_TO_DOCUMENT), .val (.int (frm2 s_Move_TO_DOCUMENT s_Move_CONVERSE_FIRST_CHILD s_Move_CONVERSE_NEXT_SIBLING s_Move_TO_DOCUMENT)), .val .null, .unset, .unset] [])) _
      refine XS.aloadN X227.here hx rfl (hb hby at_66) rfl rfl ?_
      exact k
    obtain ⟨T228, X228, e228, st228⟩ := getS2 X227 hx hZ hown (host := "") (Or.inl (hw _ (List.mem_of_getElem? (i := 98) rfl))) Via.refl e227 P18 (g := (mkF m 67 #[.val (.int p1), .val (.int (4 : Int32)), .val (.ref s_Move_TO_DOCUMENT), .val (.int (frm2 s_Move_TO_DOCUMENT s_Move_CONVERSE_FIRST_CHILD s_Move_CONVERSE_NEXT_SIBLING s_Move_TO_DOCUMENT)), .val .null, .unset, .unset] [(.ref s_Move_TO_DOCUMENT)])) rfl (hb hby at_67)
    refine own_go st228 ?_
    refine own_go (A := T228.setTop (mkF m 70 #[.val (.int p1), .val (.int (4 : Int32)), .val (.ref s_Move_TO_DOCUMENT), .val (.int (frm2 s_Move_TO_DOCUMENT s_Move_CONVERSE_FIRST_CHILD s_Move_CONVERSE_NEXT_SIBLING s_Move_TO_DOCUMENT)), .val .null, .unset, .unset] [(.ref s_Move_TO_DOCUMENT), (.ref s_Move_TO_DOCUMENT)])) (B := T228.setTop (mkF m 81 #[.val (.int p1), .val (.int (4 : Int32)), .val (.ref s_Move_TO_DOCUMENT), .val (.int (frm2 s_Move_TO_DOCUMENT s_Move_CONVERSE_FIRST_CHILD s_Move_CONVERSE_NEXT_SIBLING s_Move_TO_DOCUMENT)), .val .null, .val (.int (1 : Int32)), .unset] [(.ref s_Move_TO_DOCUMENT)])) (fun t k => ?_) ?_
    · show Steps p.tables e below (T228.setTop (mkF m 70 #[.val (.int p1), .val (.int (4 : Int32)), .val (.ref s_Move_TO_DOCUMENT), .val (.int (frm2 s_Move_TO_DOCUMENT s_Move_CONVERSE_FIRST_CHILD s_Move_CONVERSE_NEXT_SIBLING s_Move_TO_DOCUMENT)), .val .null, .unset, .unset] [(.ref s_Move_TO_DOCUMENT), (.ref s_Move_TO_DOCUMENT)])) _
      refine Jvm.RoadKit.acmp (g := (mkF m 70 #[.val (.int p1), .val (.int (4 : Int32)), .val (.ref s_Move_TO_DOCUMENT), .val (.int (frm2 s_Move_TO_DOCUMENT s_Move_CONVERSE_FIRST_CHILD s_Move_CONVERSE_NEXT_SIBLING s_Move_TO_DOCUMENT)), .val .null, .unset, .unset] [(.ref s_Move_TO_DOCUMENT), (.ref s_Move_TO_DOCUMENT)])) X228 hx rfl rfl rfl (pc0 := 70) (pc' := 73) (same := true) rfl (hb hby at_70) rfl (decide_eq_true rfl) (by decide) (by decide) ?_
      show Steps p.tables e below (T228.setTop (mkF m 73 #[.val (.int p1), .val (.int (4 : Int32)), .val (.ref s_Move_TO_DOCUMENT), .val (.int (frm2 s_Move_TO_DOCUMENT s_Move_CONVERSE_FIRST_CHILD s_Move_CONVERSE_NEXT_SIBLING s_Move_TO_DOCUMENT)), .val .null, .unset, .unset] [])) _
      refine XS.iconst X228.here hx rfl (hb hby at_73) ?_
      show Steps p.tables e below (T228.setTop (mkF m 74 #[.val (.int p1), .val (.int (4 : Int32)), .val (.ref s_Move_TO_DOCUMENT), .val (.int (frm2 s_Move_TO_DOCUMENT s_Move_CONVERSE_FIRST_CHILD s_Move_CONVERSE_NEXT_SIBLING s_Move_TO_DOCUMENT)), .val .null, .unset, .unset] [(.int (1 : Int32))])) _
      refine XS.goto X228.here hx rfl (pc0 := 74) (pc' := 78) rfl (hb hby at_74) (by decide) (by decide) ?_
      show Steps p.tables e below (T228.setTop (mkF m 78 #[.val (.int p1), .val (.int (4 : Int32)), .val (.ref s_Move_TO_DOCUMENT), .val (.int (frm2 s_Move_TO_DOCUMENT s_Move_CONVERSE_FIRST_CHILD s_Move_CONVERSE_NEXT_SIBLING s_Move_TO_DOCUMENT)), .val .null, .unset, .unset] [(.int (1 : Int32))])) _
      refine XS.istore X228.here hx rfl (hb hby at_78) rfl (l' := #[.val (.int p1), .val (.int (4 : Int32)), .val (.ref s_Move_TO_DOCUMENT), .val (.int (frm2 s_Move_TO_DOCUMENT s_Move_CONVERSE_FIRST_CHILD s_Move_CONVERSE_NEXT_SIBLING s_Move_TO_DOCUMENT)), .val .null, .val (.int (1 : Int32)), .unset]) rfl ?_
      show Steps p.tables e below (T228.setTop (mkF m 80 #[.val (.int p1), .val (.int (4 : Int32)), .val (.ref s_Move_TO_DOCUMENT), .val (.int (frm2 s_Move_TO_DOCUMENT s_Move_CONVERSE_FIRST_CHILD s_Move_CONVERSE_NEXT_SIBLING s_Move_TO_DOCUMENT)), .val .null, .val (.int (1 : Int32)), .unset] [])) _
      refine XS.aloadN X228.here hx rfl (hb hby at_80) rfl rfl ?_
      exact k
    obtain ⟨cq229, kq229, q229a, q229b, q229c⟩ := isOf hZ e228 P19
    obtain ⟨_, _, ⟨T229, L229, k229, n229⟩, -, X229, ⟨Lc229, hQ229, l229, y229, z229⟩, st229⟩ := X228.virtualBack hx (y := (⟨"com/example/decider/decider/library/xpath/Move", "inverse", "()Lcom/example/decider/decider/library/xpath/Move;"⟩ : MethodName)) (z := (⟨"com/example/decider/decider/library/xpath/Move", "inverse", "()Lcom/example/decider/decider/library/xpath/Move;"⟩ : MethodName)) hown (mvT hZ (hw _ (List.mem_of_getElem? (i := 73) rfl))) (mvT hZ (hw _ (List.mem_of_getElem? (i := 74) rfl))) (notFace_of_selects (args := #[]) (mvT hZ (hw _ (List.mem_of_getElem? (i := 76) rfl)))) (mvT hZ (hw _ (List.mem_of_getElem? (i := 76) rfl))) (mvT hZ (hw _ (List.mem_of_getElem? (i := 75) rfl))) (by decide) (backOf (W := 0) (rm12_4 l Z a0 hw [] s_Move_TO_DOCUMENT s_Move_FROM_DOCUMENT h0 n0 Z0 P19 P22 P20) hZ (hw _ (List.mem_of_getElem? (i := 77) rfl)) (hw _ (List.mem_of_getElem? (i := 6) rfl)) (by decide) (by decide)) q229a q229c (g := (mkF m 81 #[.val (.int p1), .val (.int (4 : Int32)), .val (.ref s_Move_TO_DOCUMENT), .val (.int (frm2 s_Move_TO_DOCUMENT s_Move_CONVERSE_FIRST_CHILD s_Move_CONVERSE_NEXT_SIBLING s_Move_TO_DOCUMENT)), .val .null, .val (.int (1 : Int32)), .unset] [(.ref s_Move_TO_DOCUMENT)])) rfl (by rw [hml]; rfl) (Steps.refl _) (argsL := []) (rest := []) (lenOf pd_10 rfl) rfl (by show 2 * 0 + _ ≤ _; exact Nat.le_of_eq rfl) (hb hby at_81) (fun _ _ => ⟨rfl, e228, (by decide : 0 + 0 ≤ _), (by decide : 0 + 0 ≤ _)⟩)
    dsimp only [Pt.U, Pt.locs, Pt.cells, Pt.slots] at X229 l229 y229 z229 st229 hQ229
    subst l229 y229 z229
    obtain ⟨rfl, Nq229, e229⟩ := hQ229
    have N229 := Fr.app N227 Nq229
    refine own_go (A := _) (B := T229.setTop (mkF m 84 #[.val (.int p1), .val (.int (4 : Int32)), .val (.ref s_Move_TO_DOCUMENT), .val (.int (frm2 s_Move_TO_DOCUMENT s_Move_CONVERSE_FIRST_CHILD s_Move_CONVERSE_NEXT_SIBLING s_Move_TO_DOCUMENT)), .val .null, .val (.int (1 : Int32)), .unset] [(.ref s_Move_FROM_DOCUMENT)])) (fun t k => st229.trans k) ?_
    obtain ⟨cq230, kq230, q230a, q230b, q230c⟩ := isOf hZ e229 P23
    obtain ⟨_, _, ⟨T230, L230, k230, n230⟩, -, X230, ⟨Lc230, hQ230, l230, y230, z230⟩, st230⟩ := X229.virtualBack hx (y := (⟨"com/example/decider/decider/library/xpath/Move", "upward", "()Z"⟩ : MethodName)) (z := (⟨"com/example/decider/decider/library/xpath/Move", "upward", "()Z"⟩ : MethodName)) hown (mvT hZ (hw _ (List.mem_of_getElem? (i := 8) rfl))) (mvT hZ (hw _ (List.mem_of_getElem? (i := 9) rfl))) (notFace_of_selects (args := #[]) (mvT hZ (hw _ (List.mem_of_getElem? (i := 11) rfl)))) (mvT hZ (hw _ (List.mem_of_getElem? (i := 11) rfl))) (mvT hZ (hw _ (List.mem_of_getElem? (i := 10) rfl))) (by decide) (backOf (W := 0) (rm2 l Z a0 hw [] s_Move_FROM_DOCUMENT s_Move_CONVERSE_FIRST_CHILD s_Move_CONVERSE_NEXT_SIBLING s_Move_TO_DOCUMENT h0 n0 Z0 P10 P14 P18) hZ (hw _ (List.mem_of_getElem? (i := 12) rfl)) (hw _ (List.mem_of_getElem? (i := 6) rfl)) (by decide) (by decide)) q230a q230c (g := (mkF m 84 #[.val (.int p1), .val (.int (4 : Int32)), .val (.ref s_Move_TO_DOCUMENT), .val (.int (frm2 s_Move_TO_DOCUMENT s_Move_CONVERSE_FIRST_CHILD s_Move_CONVERSE_NEXT_SIBLING s_Move_TO_DOCUMENT)), .val .null, .val (.int (1 : Int32)), .unset] [(.ref s_Move_FROM_DOCUMENT)])) rfl (by rw [hml]; rfl) (Steps.refl _) (argsL := []) (rest := []) (lenOf pd_4 rfl) rfl (by show 2 * 0 + _ ≤ _; exact Nat.le_of_eq rfl) (hb hby at_84) (fun _ _ => ⟨rfl, e229, (by decide : 0 + 0 ≤ _), (by decide : 0 + 0 ≤ _)⟩)
    dsimp only [Pt.U, Pt.locs, Pt.cells, Pt.slots] at X230 l230 y230 z230 st230 hQ230
    subst l230 y230 z230
    obtain ⟨rfl, Nq230, e230⟩ := hQ230
    have N230 := Fr.app N229 Nq230
    refine own_go (A := _) (B := T230.setTop (mkF m 87 #[.val (.int p1), .val (.int (4 : Int32)), .val (.ref s_Move_TO_DOCUMENT), .val (.int (frm2 s_Move_TO_DOCUMENT s_Move_CONVERSE_FIRST_CHILD s_Move_CONVERSE_NEXT_SIBLING s_Move_TO_DOCUMENT)), .val .null, .val (.int (1 : Int32)), .unset] [(.int (frm2 s_Move_FROM_DOCUMENT s_Move_CONVERSE_FIRST_CHILD s_Move_CONVERSE_NEXT_SIBLING s_Move_TO_DOCUMENT))])) (fun t k => st230.trans k) ?_
    refine own_go (A := T230.setTop (mkF m 87 #[.val (.int p1), .val (.int (4 : Int32)), .val (.ref s_Move_TO_DOCUMENT), .val (.int (frm2 s_Move_TO_DOCUMENT s_Move_CONVERSE_FIRST_CHILD s_Move_CONVERSE_NEXT_SIBLING s_Move_TO_DOCUMENT)), .val .null, .val (.int (1 : Int32)), .unset] [(.int (frm2 s_Move_FROM_DOCUMENT s_Move_CONVERSE_FIRST_CHILD s_Move_CONVERSE_NEXT_SIBLING s_Move_TO_DOCUMENT))])) (B := T230.setTop (mkF m 92 #[.val (.int p1), .val (.int (4 : Int32)), .val (.ref s_Move_TO_DOCUMENT), .val (.int (frm2 s_Move_TO_DOCUMENT s_Move_CONVERSE_FIRST_CHILD s_Move_CONVERSE_NEXT_SIBLING s_Move_TO_DOCUMENT)), .val .null, .val (.int (1 : Int32)), .val (.int (frm2 s_Move_FROM_DOCUMENT s_Move_CONVERSE_FIRST_CHILD s_Move_CONVERSE_NEXT_SIBLING s_Move_TO_DOCUMENT))] [(.int (1 : Int32)), (.int (frm2 s_Move_TO_DOCUMENT s_Move_CONVERSE_FIRST_CHILD s_Move_CONVERSE_NEXT_SIBLING s_Move_TO_DOCUMENT))])) (fun t k => ?_) ?_
    · show Steps p.tables e below (T230.setTop (mkF m 87 #[.val (.int p1), .val (.int (4 : Int32)), .val (.ref s_Move_TO_DOCUMENT), .val (.int (frm2 s_Move_TO_DOCUMENT s_Move_CONVERSE_FIRST_CHILD s_Move_CONVERSE_NEXT_SIBLING s_Move_TO_DOCUMENT)), .val .null, .val (.int (1 : Int32)), .unset] [(.int (frm2 s_Move_FROM_DOCUMENT s_Move_CONVERSE_FIRST_CHILD s_Move_CONVERSE_NEXT_SIBLING s_Move_TO_DOCUMENT))])) _
      refine XS.istore X230.here hx rfl (hb hby at_87) rfl (l' := #[.val (.int p1), .val (.int (4 : Int32)), .val (.ref s_Move_TO_DOCUMENT), .val (.int (frm2 s_Move_TO_DOCUMENT s_Move_CONVERSE_FIRST_CHILD s_Move_CONVERSE_NEXT_SIBLING s_Move_TO_DOCUMENT)), .val .null, .val (.int (1 : Int32)), .val (.int (frm2 s_Move_FROM_DOCUMENT s_Move_CONVERSE_FIRST_CHILD s_Move_CONVERSE_NEXT_SIBLING s_Move_TO_DOCUMENT))]) rfl ?_
      show Steps p.tables e below (T230.setTop (mkF m 89 #[.val (.int p1), .val (.int (4 : Int32)), .val (.ref s_Move_TO_DOCUMENT), .val (.int (frm2 s_Move_TO_DOCUMENT s_Move_CONVERSE_FIRST_CHILD s_Move_CONVERSE_NEXT_SIBLING s_Move_TO_DOCUMENT)), .val .null, .val (.int (1 : Int32)), .val (.int (frm2 s_Move_FROM_DOCUMENT s_Move_CONVERSE_FIRST_CHILD s_Move_CONVERSE_NEXT_SIBLING s_Move_TO_DOCUMENT))] [])) _
      refine XS.iloadN X230.here hx rfl (hb hby at_89) rfl ?_
      show Steps p.tables e below (T230.setTop (mkF m 90 #[.val (.int p1), .val (.int (4 : Int32)), .val (.ref s_Move_TO_DOCUMENT), .val (.int (frm2 s_Move_TO_DOCUMENT s_Move_CONVERSE_FIRST_CHILD s_Move_CONVERSE_NEXT_SIBLING s_Move_TO_DOCUMENT)), .val .null, .val (.int (1 : Int32)), .val (.int (frm2 s_Move_FROM_DOCUMENT s_Move_CONVERSE_FIRST_CHILD s_Move_CONVERSE_NEXT_SIBLING s_Move_TO_DOCUMENT))] [(.int (frm2 s_Move_TO_DOCUMENT s_Move_CONVERSE_FIRST_CHILD s_Move_CONVERSE_NEXT_SIBLING s_Move_TO_DOCUMENT))])) _
      refine XS.iload X230.here hx rfl (hb hby at_90) rfl ?_
      exact k
    have hc92_231 : ((frm2 s_Move_TO_DOCUMENT s_Move_CONVERSE_FIRST_CHILD s_Move_CONVERSE_NEXT_SIBLING s_Move_TO_DOCUMENT) = (1 : Int32)) := by simp [frm2, ne_s_Move_TO_DOCUMENT_s_Move_CONVERSE_FIRST_CHILD, ne_s_Move_TO_DOCUMENT_s_Move_CONVERSE_NEXT_SIBLING, ne_s_Move_FROM_DOCUMENT_s_Move_CONVERSE_FIRST_CHILD, ne_s_Move_FROM_DOCUMENT_s_Move_CONVERSE_NEXT_SIBLING, ne_s_Move_FROM_DOCUMENT_s_Move_TO_DOCUMENT]
    refine own_go (A := T230.setTop (mkF m 92 #[.val (.int p1), .val (.int (4 : Int32)), .val (.ref s_Move_TO_DOCUMENT), .val (.int (frm2 s_Move_TO_DOCUMENT s_Move_CONVERSE_FIRST_CHILD s_Move_CONVERSE_NEXT_SIBLING s_Move_TO_DOCUMENT)), .val .null, .val (.int (1 : Int32)), .val (.int (frm2 s_Move_FROM_DOCUMENT s_Move_CONVERSE_FIRST_CHILD s_Move_CONVERSE_NEXT_SIBLING s_Move_TO_DOCUMENT))] [(.int (1 : Int32)), (.int (frm2 s_Move_TO_DOCUMENT s_Move_CONVERSE_FIRST_CHILD s_Move_CONVERSE_NEXT_SIBLING s_Move_TO_DOCUMENT))])) (B := T230.setTop (mkF m 98 #[.val (.int p1), .val (.int (4 : Int32)), .val (.ref s_Move_TO_DOCUMENT), .val (.int (frm2 s_Move_TO_DOCUMENT s_Move_CONVERSE_FIRST_CHILD s_Move_CONVERSE_NEXT_SIBLING s_Move_TO_DOCUMENT)), .val .null, .val (.int (1 : Int32)), .val (.int (frm2 s_Move_FROM_DOCUMENT s_Move_CONVERSE_FIRST_CHILD s_Move_CONVERSE_NEXT_SIBLING s_Move_TO_DOCUMENT))] [(.int (frm2 s_Move_FROM_DOCUMENT s_Move_CONVERSE_FIRST_CHILD s_Move_CONVERSE_NEXT_SIBLING s_Move_TO_DOCUMENT)), (.int (frm2 s_Move_TO_DOCUMENT s_Move_CONVERSE_FIRST_CHILD s_Move_CONVERSE_NEXT_SIBLING s_Move_TO_DOCUMENT))])) (fun t k => ?_) ?_
    · show Steps p.tables e below (T230.setTop (mkF m 92 #[.val (.int p1), .val (.int (4 : Int32)), .val (.ref s_Move_TO_DOCUMENT), .val (.int (frm2 s_Move_TO_DOCUMENT s_Move_CONVERSE_FIRST_CHILD s_Move_CONVERSE_NEXT_SIBLING s_Move_TO_DOCUMENT)), .val .null, .val (.int (1 : Int32)), .val (.int (frm2 s_Move_FROM_DOCUMENT s_Move_CONVERSE_FIRST_CHILD s_Move_CONVERSE_NEXT_SIBLING s_Move_TO_DOCUMENT))] [(.int (1 : Int32)), (.int (frm2 s_Move_TO_DOCUMENT s_Move_CONVERSE_FIRST_CHILD s_Move_CONVERSE_NEXT_SIBLING s_Move_TO_DOCUMENT))])) _
      refine XS.icmpNo X230.here hx rfl (hb hby at_92) rfl (teq hc92_231).2 ?_
      show Steps p.tables e below (T230.setTop (mkF m 95 #[.val (.int p1), .val (.int (4 : Int32)), .val (.ref s_Move_TO_DOCUMENT), .val (.int (frm2 s_Move_TO_DOCUMENT s_Move_CONVERSE_FIRST_CHILD s_Move_CONVERSE_NEXT_SIBLING s_Move_TO_DOCUMENT)), .val .null, .val (.int (1 : Int32)), .val (.int (frm2 s_Move_FROM_DOCUMENT s_Move_CONVERSE_FIRST_CHILD s_Move_CONVERSE_NEXT_SIBLING s_Move_TO_DOCUMENT))] [])) _
      refine XS.iloadN X230.here hx rfl (hb hby at_95) rfl ?_
      show Steps p.tables e below (T230.setTop (mkF m 96 #[.val (.int p1), .val (.int (4 : Int32)), .val (.ref s_Move_TO_DOCUMENT), .val (.int (frm2 s_Move_TO_DOCUMENT s_Move_CONVERSE_FIRST_CHILD s_Move_CONVERSE_NEXT_SIBLING s_Move_TO_DOCUMENT)), .val .null, .val (.int (1 : Int32)), .val (.int (frm2 s_Move_FROM_DOCUMENT s_Move_CONVERSE_FIRST_CHILD s_Move_CONVERSE_NEXT_SIBLING s_Move_TO_DOCUMENT))] [(.int (frm2 s_Move_TO_DOCUMENT s_Move_CONVERSE_FIRST_CHILD s_Move_CONVERSE_NEXT_SIBLING s_Move_TO_DOCUMENT))])) _
      refine XS.iload X230.here hx rfl (hb hby at_96) rfl ?_
      exact k
    have hc98_232 : ¬ ((frm2 s_Move_TO_DOCUMENT s_Move_CONVERSE_FIRST_CHILD s_Move_CONVERSE_NEXT_SIBLING s_Move_TO_DOCUMENT) = (frm2 s_Move_FROM_DOCUMENT s_Move_CONVERSE_FIRST_CHILD s_Move_CONVERSE_NEXT_SIBLING s_Move_TO_DOCUMENT)) := by simp [frm2, ne_s_Move_TO_DOCUMENT_s_Move_CONVERSE_FIRST_CHILD, ne_s_Move_TO_DOCUMENT_s_Move_CONVERSE_NEXT_SIBLING, ne_s_Move_FROM_DOCUMENT_s_Move_CONVERSE_FIRST_CHILD, ne_s_Move_FROM_DOCUMENT_s_Move_CONVERSE_NEXT_SIBLING, ne_s_Move_FROM_DOCUMENT_s_Move_TO_DOCUMENT]
    refine own_go (A := T230.setTop (mkF m 98 #[.val (.int p1), .val (.int (4 : Int32)), .val (.ref s_Move_TO_DOCUMENT), .val (.int (frm2 s_Move_TO_DOCUMENT s_Move_CONVERSE_FIRST_CHILD s_Move_CONVERSE_NEXT_SIBLING s_Move_TO_DOCUMENT)), .val .null, .val (.int (1 : Int32)), .val (.int (frm2 s_Move_FROM_DOCUMENT s_Move_CONVERSE_FIRST_CHILD s_Move_CONVERSE_NEXT_SIBLING s_Move_TO_DOCUMENT))] [(.int (frm2 s_Move_FROM_DOCUMENT s_Move_CONVERSE_FIRST_CHILD s_Move_CONVERSE_NEXT_SIBLING s_Move_TO_DOCUMENT)), (.int (frm2 s_Move_TO_DOCUMENT s_Move_CONVERSE_FIRST_CHILD s_Move_CONVERSE_NEXT_SIBLING s_Move_TO_DOCUMENT))])) (B := T230.setTop (mkF m 106 #[.val (.int p1), .val (.int (4 : Int32)), .val (.ref s_Move_TO_DOCUMENT), .val (.int (frm2 s_Move_TO_DOCUMENT s_Move_CONVERSE_FIRST_CHILD s_Move_CONVERSE_NEXT_SIBLING s_Move_TO_DOCUMENT)), .val .null, .val (.int (1 : Int32)), .val (.int (frm2 s_Move_FROM_DOCUMENT s_Move_CONVERSE_FIRST_CHILD s_Move_CONVERSE_NEXT_SIBLING s_Move_TO_DOCUMENT))] [(.int (1 : Int32))])) (fun t k => ?_) ?_
    · show Steps p.tables e below (T230.setTop (mkF m 98 #[.val (.int p1), .val (.int (4 : Int32)), .val (.ref s_Move_TO_DOCUMENT), .val (.int (frm2 s_Move_TO_DOCUMENT s_Move_CONVERSE_FIRST_CHILD s_Move_CONVERSE_NEXT_SIBLING s_Move_TO_DOCUMENT)), .val .null, .val (.int (1 : Int32)), .val (.int (frm2 s_Move_FROM_DOCUMENT s_Move_CONVERSE_FIRST_CHILD s_Move_CONVERSE_NEXT_SIBLING s_Move_TO_DOCUMENT))] [(.int (frm2 s_Move_FROM_DOCUMENT s_Move_CONVERSE_FIRST_CHILD s_Move_CONVERSE_NEXT_SIBLING s_Move_TO_DOCUMENT)), (.int (frm2 s_Move_TO_DOCUMENT s_Move_CONVERSE_FIRST_CHILD s_Move_CONVERSE_NEXT_SIBLING s_Move_TO_DOCUMENT))])) _
      refine XS.icmpNo X230.here hx rfl (hb hby at_98) rfl (feq hc98_232).1 ?_
      show Steps p.tables e below (T230.setTop (mkF m 101 #[.val (.int p1), .val (.int (4 : Int32)), .val (.ref s_Move_TO_DOCUMENT), .val (.int (frm2 s_Move_TO_DOCUMENT s_Move_CONVERSE_FIRST_CHILD s_Move_CONVERSE_NEXT_SIBLING s_Move_TO_DOCUMENT)), .val .null, .val (.int (1 : Int32)), .val (.int (frm2 s_Move_FROM_DOCUMENT s_Move_CONVERSE_FIRST_CHILD s_Move_CONVERSE_NEXT_SIBLING s_Move_TO_DOCUMENT))] [])) _
      refine XS.iconst X230.here hx rfl (hb hby at_101) ?_
      show Steps p.tables e below (T230.setTop (mkF m 102 #[.val (.int p1), .val (.int (4 : Int32)), .val (.ref s_Move_TO_DOCUMENT), .val (.int (frm2 s_Move_TO_DOCUMENT s_Move_CONVERSE_FIRST_CHILD s_Move_CONVERSE_NEXT_SIBLING s_Move_TO_DOCUMENT)), .val .null, .val (.int (1 : Int32)), .val (.int (frm2 s_Move_FROM_DOCUMENT s_Move_CONVERSE_FIRST_CHILD s_Move_CONVERSE_NEXT_SIBLING s_Move_TO_DOCUMENT))] [(.int (1 : Int32))])) _
      refine XS.goto X230.here hx rfl (pc0 := 102) (pc' := 106) rfl (hb hby at_102) (by decide) (by decide) ?_
      exact k
    obtain ⟨fs, hr, hrun, hended, hW, hsame⟩ := X230.leave (v := some (.int (1 : Int32))) (fun h => by rw [Bd.returns] at h; cases h)
    refine ⟨_, _, ?_, hrun, hended, _, _, rfl, ?_, ⟨_, rfl⟩, hW, hsame.mono (by decide) (by decide)⟩
    · show Steps p.tables e below (T230.setTop (mkF m 106 #[.val (.int p1), .val (.int (4 : Int32)), .val (.ref s_Move_TO_DOCUMENT), .val (.int (frm2 s_Move_TO_DOCUMENT s_Move_CONVERSE_FIRST_CHILD s_Move_CONVERSE_NEXT_SIBLING s_Move_TO_DOCUMENT)), .val .null, .val (.int (1 : Int32)), .val (.int (frm2 s_Move_FROM_DOCUMENT s_Move_CONVERSE_FIRST_CHILD s_Move_CONVERSE_NEXT_SIBLING s_Move_TO_DOCUMENT))] [(.int (1 : Int32))])) _
      exact retN X230 hx (t := .boolean) Bd.returns (by simp) (hb hby at_106) hr
    · show Qrm0N Z p1 cs s_Move_FIRST_CHILD s_Move_NEXT_SIBLING s_Move_CONVERSE_FIRST_CHILD s_Move_CONVERSE_NEXT_SIBLING s_Move_TO_DOCUMENT s_Move_FROM_DOCUMENT s_Modality_FIRST_CHILD t0 v0 kk0 s_Modality_NEXT_SIBLING t1 v1 kk1 s_Modality_CONVERSE_FIRST_CHILD t2 v2 kk2 s_Modality_CONVERSE_NEXT_SIBLING t3 v3 kk3 h0 n0 _ T230.heap _
      rw [e230]
      exact ⟨rfl, N230⟩
  · rw [hk176]
    refine own_go (A := s₁.setTop (mkF m 7 #[.val (.int p1), .unset, .unset, .unset, .unset, .unset, .unset] [(.int (5 : Int32))])) (B := s₁.setTop (mkF m 9 #[.val (.int p1), .val (.int (5 : Int32)), .unset, .unset, .unset, .unset, .unset] [(.int (5 : Int32))])) (fun t k => ?_) ?_
    · show Steps p.tables e below (s₁.setTop (mkF m 7 #[.val (.int p1), .unset, .unset, .unset, .unset, .unset, .unset] [(.int (5 : Int32))])) _
      refine XS.istoreN X0.here hx rfl (hb hby at_7) rfl (l' := #[.val (.int p1), .val (.int (5 : Int32)), .unset, .unset, .unset, .unset, .unset]) rfl ?_
      show Steps p.tables e below (s₁.setTop (mkF m 8 #[.val (.int p1), .val (.int (5 : Int32)), .unset, .unset, .unset, .unset, .unset] [])) _
      refine XS.iloadN X0.here hx rfl (hb hby at_8) rfl ?_
      exact k
    obtain ⟨_, _, ⟨T233, L233, k233, n233⟩, -, X233, ⟨Lc233, hQ233, l233, y233, z233⟩, st233⟩ := Jvm.LawKit.callS X0 hx (y := (⟨"com/example/decider/decider/library/xpath/MoveUpwardPinLaw", "pick", "(I)Lcom/example/decider/decider/library/xpath/Move;"⟩ : MethodName)) hown (mvT hZ (hw _ (List.mem_of_getElem? (i := 1) rfl))) (mvT hZ (hw _ (List.mem_of_getElem? (i := 2) rfl))) (mvT hZ (hw _ (List.mem_of_getElem? (i := 3) rfl))) (mvT hZ (hw _ (List.mem_of_getElem? (i := 4) rfl))) (by decide) (backOf (W := 0) (rm1_5 l Z a0 hw [] s_Move_FROM_DOCUMENT h0 n0 Z0 P22) hZ (hw _ (List.mem_of_getElem? (i := 4) rfl)) (hw _ (List.mem_of_getElem? (i := 3) rfl)) (by decide) (by decide)) (g := (mkF m 9 #[.val (.int p1), .val (.int (5 : Int32)), .unset, .unset, .unset, .unset, .unset] [(.int (5 : Int32))])) rfl (by rw [hml]; rfl) (argsL := [(.int (5 : Int32))]) (rest := []) (lenOf pd_6 rfl) rfl (by show 2 * 0 + _ ≤ _; exact Nat.le_of_eq rfl) (hb hby at_9) (fun _ _ => ⟨rfl, e0, (by decide : 0 + 0 ≤ _), (by decide : 0 + 0 ≤ _)⟩)
    dsimp only [Pt.U, Pt.locs, Pt.cells, Pt.slots] at X233 l233 y233 z233 st233 hQ233
    subst l233 y233 z233
    obtain ⟨rfl, Nq233, e233⟩ := hQ233
    have N233 := Fr.app N0 Nq233
    refine own_go (A := _) (B := T233.setTop (mkF m 12 #[.val (.int p1), .val (.int (5 : Int32)), .unset, .unset, .unset, .unset, .unset] [(.ref s_Move_FROM_DOCUMENT)])) st233 ?_
    refine own_go (A := T233.setTop (mkF m 12 #[.val (.int p1), .val (.int (5 : Int32)), .unset, .unset, .unset, .unset, .unset] [(.ref s_Move_FROM_DOCUMENT)])) (B := T233.setTop (mkF m 14 #[.val (.int p1), .val (.int (5 : Int32)), .val (.ref s_Move_FROM_DOCUMENT), .unset, .unset, .unset, .unset] [(.ref s_Move_FROM_DOCUMENT)])) (fun t k => ?_) ?_
    · show Steps p.tables e below (T233.setTop (mkF m 12 #[.val (.int p1), .val (.int (5 : Int32)), .unset, .unset, .unset, .unset, .unset] [(.ref s_Move_FROM_DOCUMENT)])) _
      refine XS.astoreN X233.here hx rfl (hb hby at_12) rfl rfl (l' := #[.val (.int p1), .val (.int (5 : Int32)), .val (.ref s_Move_FROM_DOCUMENT), .unset, .unset, .unset, .unset]) rfl ?_
      show Steps p.tables e below (T233.setTop (mkF m 13 #[.val (.int p1), .val (.int (5 : Int32)), .val (.ref s_Move_FROM_DOCUMENT), .unset, .unset, .unset, .unset] [])) _
      refine XS.aloadN X233.here hx rfl (hb hby at_13) rfl rfl ?_
      exact k
    obtain ⟨cq234, kq234, q234a, q234b, q234c⟩ := isOf hZ e233 P23
    obtain ⟨_, _, ⟨T234, L234, k234, n234⟩, -, X234, ⟨Lc234, hQ234, l234, y234, z234⟩, st234⟩ := X233.virtualBack hx (y := (⟨"com/example/decider/decider/library/xpath/Move", "upward", "()Z"⟩ : MethodName)) (z := (⟨"com/example/decider/decider/library/xpath/Move", "upward", "()Z"⟩ : MethodName)) hown (mvT hZ (hw _ (List.mem_of_getElem? (i := 8) rfl))) (mvT hZ (hw _ (List.mem_of_getElem? (i := 9) rfl))) (notFace_of_selects (args := #[]) (mvT hZ (hw _ (List.mem_of_getElem? (i := 11) rfl)))) (mvT hZ (hw _ (List.mem_of_getElem? (i := 11) rfl))) (mvT hZ (hw _ (List.mem_of_getElem? (i := 10) rfl))) (by decide) (backOf (W := 0) (rm2 l Z a0 hw [] s_Move_FROM_DOCUMENT s_Move_CONVERSE_FIRST_CHILD s_Move_CONVERSE_NEXT_SIBLING s_Move_TO_DOCUMENT h0 n0 Z0 P10 P14 P18) hZ (hw _ (List.mem_of_getElem? (i := 12) rfl)) (hw _ (List.mem_of_getElem? (i := 6) rfl)) (by decide) (by decide)) q234a q234c (g := (mkF m 14 #[.val (.int p1), .val (.int (5 : Int32)), .val (.ref s_Move_FROM_DOCUMENT), .unset, .unset, .unset, .unset] [(.ref s_Move_FROM_DOCUMENT)])) rfl (by rw [hml]; rfl) (Steps.refl _) (argsL := []) (rest := []) (lenOf pd_4 rfl) rfl (by show 2 * 0 + _ ≤ _; exact Nat.le_of_eq rfl) (hb hby at_14) (fun _ _ => ⟨rfl, e233, (by decide : 0 + 0 ≤ _), (by decide : 0 + 0 ≤ _)⟩)
    dsimp only [Pt.U, Pt.locs, Pt.cells, Pt.slots] at X234 l234 y234 z234 st234 hQ234
    subst l234 y234 z234
    obtain ⟨rfl, Nq234, e234⟩ := hQ234
    have N234 := Fr.app N233 Nq234
    refine own_go (A := _) (B := T234.setTop (mkF m 17 #[.val (.int p1), .val (.int (5 : Int32)), .val (.ref s_Move_FROM_DOCUMENT), .unset, .unset, .unset, .unset] [(.int (frm2 s_Move_FROM_DOCUMENT s_Move_CONVERSE_FIRST_CHILD s_Move_CONVERSE_NEXT_SIBLING s_Move_TO_DOCUMENT))])) (fun t k => st234.trans k) ?_
    refine own_go (A := T234.setTop (mkF m 17 #[.val (.int p1), .val (.int (5 : Int32)), .val (.ref s_Move_FROM_DOCUMENT), .unset, .unset, .unset, .unset] [(.int (frm2 s_Move_FROM_DOCUMENT s_Move_CONVERSE_FIRST_CHILD s_Move_CONVERSE_NEXT_SIBLING s_Move_TO_DOCUMENT))])) (B := T234.setTop (mkF m 19 #[.val (.int p1), .val (.int (5 : Int32)), .val (.ref s_Move_FROM_DOCUMENT), .val (.int (frm2 s_Move_FROM_DOCUMENT s_Move_CONVERSE_FIRST_CHILD s_Move_CONVERSE_NEXT_SIBLING s_Move_TO_DOCUMENT)), .unset, .unset, .unset] [(.ref s_Move_FROM_DOCUMENT)])) (fun t k => ?_) ?_
    · show Steps p.tables e below (T234.setTop (mkF m 17 #[.val (.int p1), .val (.int (5 : Int32)), .val (.ref s_Move_FROM_DOCUMENT), .unset, .unset, .unset, .unset] [(.int (frm2 s_Move_FROM_DOCUMENT s_Move_CONVERSE_FIRST_CHILD s_Move_CONVERSE_NEXT_SIBLING s_Move_TO_DOCUMENT))])) _
      refine XS.istoreN X234.here hx rfl (hb hby at_17) rfl (l' := #[.val (.int p1), .val (.int (5 : Int32)), .val (.ref s_Move_FROM_DOCUMENT), .val (.int (frm2 s_Move_FROM_DOCUMENT s_Move_CONVERSE_FIRST_CHILD s_Move_CONVERSE_NEXT_SIBLING s_Move_TO_DOCUMENT)), .unset, .unset, .unset]) rfl ?_
      show Steps p.tables e below (T234.setTop (mkF m 18 #[.val (.int p1), .val (.int (5 : Int32)), .val (.ref s_Move_FROM_DOCUMENT), .val (.int (frm2 s_Move_FROM_DOCUMENT s_Move_CONVERSE_FIRST_CHILD s_Move_CONVERSE_NEXT_SIBLING s_Move_TO_DOCUMENT)), .unset, .unset, .unset] [])) _
      refine XS.aloadN X234.here hx rfl (hb hby at_18) rfl rfl ?_
      exact k
    obtain ⟨cq235, kq235, q235a, q235b, q235c⟩ := isOf hZ e234 P23
    obtain ⟨_, _, ⟨T235, L235, k235, n235⟩, -, X235, ⟨Lc235, hQ235, l235, y235, z235⟩, st235⟩ := X234.virtualBack hx (y := (⟨"com/example/decider/decider/library/xpath/Move", "modality", "()Lcom/example/decider/decider/logic/formula/Modality;"⟩ : MethodName)) (z := (⟨"com/example/decider/decider/library/xpath/Move", "modality", "()Lcom/example/decider/decider/logic/formula/Modality;"⟩ : MethodName)) hown (mvT hZ (hw _ (List.mem_of_getElem? (i := 19) rfl))) (mvT hZ (hw _ (List.mem_of_getElem? (i := 20) rfl))) (notFace_of_selects (args := #[]) (mvT hZ (hw _ (List.mem_of_getElem? (i := 22) rfl)))) (mvT hZ (hw _ (List.mem_of_getElem? (i := 22) rfl))) (mvT hZ (hw _ (List.mem_of_getElem? (i := 21) rfl))) (by decide) (backOf (W := 0) (rm3n l Z a0 hw [] s_Move_FROM_DOCUMENT h0 n0 Z0 P25) hZ (hw _ (List.mem_of_getElem? (i := 23) rfl)) (hw _ (List.mem_of_getElem? (i := 6) rfl)) (by decide) (by decide)) q235a q235c (g := (mkF m 19 #[.val (.int p1), .val (.int (5 : Int32)), .val (.ref s_Move_FROM_DOCUMENT), .val (.int (frm2 s_Move_FROM_DOCUMENT s_Move_CONVERSE_FIRST_CHILD s_Move_CONVERSE_NEXT_SIBLING s_Move_TO_DOCUMENT)), .unset, .unset, .unset] [(.ref s_Move_FROM_DOCUMENT)])) rfl (by rw [hml]; rfl) (Steps.refl _) (argsL := []) (rest := []) (lenOf pd_7 rfl) rfl (by show 2 * 0 + _ ≤ _; exact Nat.le_of_eq rfl) (hb hby at_19) (fun _ _ => ⟨rfl, e234, (by decide : 0 + 0 ≤ _), (by decide : 0 + 0 ≤ _)⟩)
    dsimp only [Pt.U, Pt.locs, Pt.cells, Pt.slots] at X235 l235 y235 z235 st235 hQ235
    subst l235 y235 z235
    obtain ⟨rfl, Nq235, e235⟩ := hQ235
    have N235 := Fr.app N234 Nq235
    refine own_go (A := _) (B := T235.setTop (mkF m 22 #[.val (.int p1), .val (.int (5 : Int32)), .val (.ref s_Move_FROM_DOCUMENT), .val (.int (frm2 s_Move_FROM_DOCUMENT s_Move_CONVERSE_FIRST_CHILD s_Move_CONVERSE_NEXT_SIBLING s_Move_TO_DOCUMENT)), .unset, .unset, .unset] [.null])) (fun t k => st235.trans k) ?_
    refine own_go (A := T235.setTop (mkF m 22 #[.val (.int p1), .val (.int (5 : Int32)), .val (.ref s_Move_FROM_DOCUMENT), .val (.int (frm2 s_Move_FROM_DOCUMENT s_Move_CONVERSE_FIRST_CHILD s_Move_CONVERSE_NEXT_SIBLING s_Move_TO_DOCUMENT)), .unset, .unset, .unset] [.null])) (B := T235.setTop (mkF m 67 #[.val (.int p1), .val (.int (5 : Int32)), .val (.ref s_Move_FROM_DOCUMENT), .val (.int (frm2 s_Move_FROM_DOCUMENT s_Move_CONVERSE_FIRST_CHILD s_Move_CONVERSE_NEXT_SIBLING s_Move_TO_DOCUMENT)), .val .null, .unset, .unset] [(.ref s_Move_FROM_DOCUMENT)])) (fun t k => ?_) ?_
    · show Steps p.tables e below (T235.setTop (mkF m 22 #[.val (.int p1), .val (.int (5 : Int32)), .val (.ref s_Move_FROM_DOCUMENT), .val (.int (frm2 s_Move_FROM_DOCUMENT s_Move_CONVERSE_FIRST_CHILD s_Move_CONVERSE_NEXT_SIBLING s_Move_TO_DOCUMENT)), .unset, .unset, .unset] [.null])) _
      refine XS.astore X235.here hx rfl (hb hby at_22) rfl rfl (l' := #[.val (.int p1), .val (.int (5 : Int32)), .val (.ref s_Move_FROM_DOCUMENT), .val (.int (frm2 s_Move_FROM_DOCUMENT s_Move_CONVERSE_FIRST_CHILD s_Move_CONVERSE_NEXT_SIBLING s_Move_TO_DOCUMENT)), .val .null, .unset, .unset]) rfl ?_
      show Steps p.tables e below (T235.setTop (mkF m 24 #[.val (.int p1), .val (.int (5 : Int32)), .val (.ref s_Move_FROM_DOCUMENT), .val (.int (frm2 s_Move_FROM_DOCUMENT s_Move_CONVERSE_FIRST_CHILD s_Move_CONVERSE_NEXT_SIBLING s_Move_TO_DOCUMENT)), .val .null, .unset, .unset] [])) _
      refine XS.aload X235.here hx rfl (hb hby at_24) rfl rfl ?_
      show Steps p.tables e below (T235.setTop (mkF m 26 #[.val (.int p1), .val (.int (5 : Int32)), .val (.ref s_Move_FROM_DOCUMENT), .val (.int (frm2 s_Move_FROM_DOCUMENT s_Move_CONVERSE_FIRST_CHILD s_Move_CONVERSE_NEXT_SIBLING s_Move_TO_DOCUMENT)), .val .null, .unset, .unset] [.null])) _
      refine XS.ifnullYes X235.here hx rfl (pc0 := 26) (pc' := 66) rfl (hb hby at_26) rfl (by decide) (by decide) ?_
      show Steps p.tables e below (T235.setTop (mkF m 66 #[.val (.int p1), .val (.int (5 : Int32)), .val (.ref s_Move_FROM_DOCUMENT), .val (.int (frm2 s_Move_FROM_DOCUMENT s_Move_CONVERSE_FIRST_CHILD s_Move_CONVERSE_NEXT_SIBLING s_Move_TO_DOCUMENT)), .val .null, .unset, .unset] [])) _
      refine XS.aloadN X235.here hx rfl (hb hby at_66) rfl rfl ?_
      exact k
    obtain ⟨T236, X236, e236, st236⟩ := getS2 X235 hx hZ hown (host := "") (Or.inl (hw _ (List.mem_of_getElem? (i := 98) rfl))) Via.refl e235 P18 (g := (mkF m 67 #[.val (.int p1), .val (.int (5 : Int32)), .val (.ref s_Move_FROM_DOCUMENT), .val (.int (frm2 s_Move_FROM_DOCUMENT s_Move_CONVERSE_FIRST_CHILD s_Move_CONVERSE_NEXT_SIBLING s_Move_TO_DOCUMENT)), .val .null, .unset, .unset] [(.ref s_Move_FROM_DOCUMENT)])) rfl (hb hby at_67)
    refine own_go st236 ?_
    refine own_go (A := T236.setTop (mkF m 70 #[.val (.int p1), .val (.int (5 : Int32)), .val (.ref s_Move_FROM_DOCUMENT), .val (.int (frm2 s_Move_FROM_DOCUMENT s_Move_CONVERSE_FIRST_CHILD s_Move_CONVERSE_NEXT_SIBLING s_Move_TO_DOCUMENT)), .val .null, .unset, .unset] [(.ref s_Move_TO_DOCUMENT), (.ref s_Move_FROM_DOCUMENT)])) (B := T236.setTop (mkF m 81 #[.val (.int p1), .val (.int (5 : Int32)), .val (.ref s_Move_FROM_DOCUMENT), .val (.int (frm2 s_Move_FROM_DOCUMENT s_Move_CONVERSE_FIRST_CHILD s_Move_CONVERSE_NEXT_SIBLING s_Move_TO_DOCUMENT)), .val .null, .val (.int (0 : Int32)), .unset] [(.ref s_Move_FROM_DOCUMENT)])) (fun t k => ?_) ?_
    · show Steps p.tables e below (T236.setTop (mkF m 70 #[.val (.int p1), .val (.int (5 : Int32)), .val (.ref s_Move_FROM_DOCUMENT), .val (.int (frm2 s_Move_FROM_DOCUMENT s_Move_CONVERSE_FIRST_CHILD s_Move_CONVERSE_NEXT_SIBLING s_Move_TO_DOCUMENT)), .val .null, .unset, .unset] [(.ref s_Move_TO_DOCUMENT), (.ref s_Move_FROM_DOCUMENT)])) _
      refine Jvm.RoadKit.acmp (g := (mkF m 70 #[.val (.int p1), .val (.int (5 : Int32)), .val (.ref s_Move_FROM_DOCUMENT), .val (.int (frm2 s_Move_FROM_DOCUMENT s_Move_CONVERSE_FIRST_CHILD s_Move_CONVERSE_NEXT_SIBLING s_Move_TO_DOCUMENT)), .val .null, .unset, .unset] [(.ref s_Move_TO_DOCUMENT), (.ref s_Move_FROM_DOCUMENT)])) X236 hx rfl rfl rfl (pc0 := 70) (pc' := 77) (same := false) rfl (hb hby at_70) rfl (decide_eq_false fun q => ne_s_Move_FROM_DOCUMENT_s_Move_TO_DOCUMENT (Value.ref.inj q)) (by decide) (by decide) ?_
      show Steps p.tables e below (T236.setTop (mkF m 77 #[.val (.int p1), .val (.int (5 : Int32)), .val (.ref s_Move_FROM_DOCUMENT), .val (.int (frm2 s_Move_FROM_DOCUMENT s_Move_CONVERSE_FIRST_CHILD s_Move_CONVERSE_NEXT_SIBLING s_Move_TO_DOCUMENT)), .val .null, .unset, .unset] [])) _
      refine XS.iconst X236.here hx rfl (hb hby at_77) ?_
      show Steps p.tables e below (T236.setTop (mkF m 78 #[.val (.int p1), .val (.int (5 : Int32)), .val (.ref s_Move_FROM_DOCUMENT), .val (.int (frm2 s_Move_FROM_DOCUMENT s_Move_CONVERSE_FIRST_CHILD s_Move_CONVERSE_NEXT_SIBLING s_Move_TO_DOCUMENT)), .val .null, .unset, .unset] [(.int (0 : Int32))])) _
      refine XS.istore X236.here hx rfl (hb hby at_78) rfl (l' := #[.val (.int p1), .val (.int (5 : Int32)), .val (.ref s_Move_FROM_DOCUMENT), .val (.int (frm2 s_Move_FROM_DOCUMENT s_Move_CONVERSE_FIRST_CHILD s_Move_CONVERSE_NEXT_SIBLING s_Move_TO_DOCUMENT)), .val .null, .val (.int (0 : Int32)), .unset]) rfl ?_
      show Steps p.tables e below (T236.setTop (mkF m 80 #[.val (.int p1), .val (.int (5 : Int32)), .val (.ref s_Move_FROM_DOCUMENT), .val (.int (frm2 s_Move_FROM_DOCUMENT s_Move_CONVERSE_FIRST_CHILD s_Move_CONVERSE_NEXT_SIBLING s_Move_TO_DOCUMENT)), .val .null, .val (.int (0 : Int32)), .unset] [])) _
      refine XS.aloadN X236.here hx rfl (hb hby at_80) rfl rfl ?_
      exact k
    obtain ⟨cq237, kq237, q237a, q237b, q237c⟩ := isOf hZ e236 P23
    obtain ⟨_, _, ⟨T237, L237, k237, n237⟩, -, X237, ⟨Lc237, hQ237, l237, y237, z237⟩, st237⟩ := X236.virtualBack hx (y := (⟨"com/example/decider/decider/library/xpath/Move", "inverse", "()Lcom/example/decider/decider/library/xpath/Move;"⟩ : MethodName)) (z := (⟨"com/example/decider/decider/library/xpath/Move", "inverse", "()Lcom/example/decider/decider/library/xpath/Move;"⟩ : MethodName)) hown (mvT hZ (hw _ (List.mem_of_getElem? (i := 73) rfl))) (mvT hZ (hw _ (List.mem_of_getElem? (i := 74) rfl))) (notFace_of_selects (args := #[]) (mvT hZ (hw _ (List.mem_of_getElem? (i := 76) rfl)))) (mvT hZ (hw _ (List.mem_of_getElem? (i := 76) rfl))) (mvT hZ (hw _ (List.mem_of_getElem? (i := 75) rfl))) (by decide) (backOf (W := 0) (rm12_5 l Z a0 hw [] s_Move_FROM_DOCUMENT s_Move_TO_DOCUMENT h0 n0 Z0 P23 P18 P24) hZ (hw _ (List.mem_of_getElem? (i := 77) rfl)) (hw _ (List.mem_of_getElem? (i := 6) rfl)) (by decide) (by decide)) q237a q237c (g := (mkF m 81 #[.val (.int p1), .val (.int (5 : Int32)), .val (.ref s_Move_FROM_DOCUMENT), .val (.int (frm2 s_Move_FROM_DOCUMENT s_Move_CONVERSE_FIRST_CHILD s_Move_CONVERSE_NEXT_SIBLING s_Move_TO_DOCUMENT)), .val .null, .val (.int (0 : Int32)), .unset] [(.ref s_Move_FROM_DOCUMENT)])) rfl (by rw [hml]; rfl) (Steps.refl _) (argsL := []) (rest := []) (lenOf pd_10 rfl) rfl (by show 2 * 0 + _ ≤ _; exact Nat.le_of_eq rfl) (hb hby at_81) (fun _ _ => ⟨rfl, e236, (by decide : 0 + 0 ≤ _), (by decide : 0 + 0 ≤ _)⟩)
    dsimp only [Pt.U, Pt.locs, Pt.cells, Pt.slots] at X237 l237 y237 z237 st237 hQ237
    subst l237 y237 z237
    obtain ⟨rfl, Nq237, e237⟩ := hQ237
    have N237 := Fr.app N235 Nq237
    refine own_go (A := _) (B := T237.setTop (mkF m 84 #[.val (.int p1), .val (.int (5 : Int32)), .val (.ref s_Move_FROM_DOCUMENT), .val (.int (frm2 s_Move_FROM_DOCUMENT s_Move_CONVERSE_FIRST_CHILD s_Move_CONVERSE_NEXT_SIBLING s_Move_TO_DOCUMENT)), .val .null, .val (.int (0 : Int32)), .unset] [(.ref s_Move_TO_DOCUMENT)])) (fun t k => st237.trans k) ?_
    obtain ⟨cq238, kq238, q238a, q238b, q238c⟩ := isOf hZ e237 P19
    obtain ⟨_, _, ⟨T238, L238, k238, n238⟩, -, X238, ⟨Lc238, hQ238, l238, y238, z238⟩, st238⟩ := X237.virtualBack hx (y := (⟨"com/example/decider/decider/library/xpath/Move", "upward", "()Z"⟩ : MethodName)) (z := (⟨"com/example/decider/decider/library/xpath/Move", "upward", "()Z"⟩ : MethodName)) hown (mvT hZ (hw _ (List.mem_of_getElem? (i := 8) rfl))) (mvT hZ (hw _ (List.mem_of_getElem? (i := 9) rfl))) (notFace_of_selects (args := #[]) (mvT hZ (hw _ (List.mem_of_getElem? (i := 11) rfl)))) (mvT hZ (hw _ (List.mem_of_getElem? (i := 11) rfl))) (mvT hZ (hw _ (List.mem_of_getElem? (i := 10) rfl))) (by decide) (backOf (W := 0) (rm2 l Z a0 hw [] s_Move_TO_DOCUMENT s_Move_CONVERSE_FIRST_CHILD s_Move_CONVERSE_NEXT_SIBLING s_Move_TO_DOCUMENT h0 n0 Z0 P10 P14 P18) hZ (hw _ (List.mem_of_getElem? (i := 12) rfl)) (hw _ (List.mem_of_getElem? (i := 6) rfl)) (by decide) (by decide)) q238a q238c (g := (mkF m 84 #[.val (.int p1), .val (.int (5 : Int32)), .val (.ref s_Move_FROM_DOCUMENT), .val (.int (frm2 s_Move_FROM_DOCUMENT s_Move_CONVERSE_FIRST_CHILD s_Move_CONVERSE_NEXT_SIBLING s_Move_TO_DOCUMENT)), .val .null, .val (.int (0 : Int32)), .unset] [(.ref s_Move_TO_DOCUMENT)])) rfl (by rw [hml]; rfl) (Steps.refl _) (argsL := []) (rest := []) (lenOf pd_4 rfl) rfl (by show 2 * 0 + _ ≤ _; exact Nat.le_of_eq rfl) (hb hby at_84) (fun _ _ => ⟨rfl, e237, (by decide : 0 + 0 ≤ _), (by decide : 0 + 0 ≤ _)⟩)
    dsimp only [Pt.U, Pt.locs, Pt.cells, Pt.slots] at X238 l238 y238 z238 st238 hQ238
    subst l238 y238 z238
    obtain ⟨rfl, Nq238, e238⟩ := hQ238
    have N238 := Fr.app N237 Nq238
    refine own_go (A := _) (B := T238.setTop (mkF m 87 #[.val (.int p1), .val (.int (5 : Int32)), .val (.ref s_Move_FROM_DOCUMENT), .val (.int (frm2 s_Move_FROM_DOCUMENT s_Move_CONVERSE_FIRST_CHILD s_Move_CONVERSE_NEXT_SIBLING s_Move_TO_DOCUMENT)), .val .null, .val (.int (0 : Int32)), .unset] [(.int (frm2 s_Move_TO_DOCUMENT s_Move_CONVERSE_FIRST_CHILD s_Move_CONVERSE_NEXT_SIBLING s_Move_TO_DOCUMENT))])) (fun t k => st238.trans k) ?_
    refine own_go (A := T238.setTop (mkF m 87 #[.val (.int p1), .val (.int (5 : Int32)), .val (.ref s_Move_FROM_DOCUMENT), .val (.int (frm2 s_Move_FROM_DOCUMENT s_Move_CONVERSE_FIRST_CHILD s_Move_CONVERSE_NEXT_SIBLING s_Move_TO_DOCUMENT)), .val .null, .val (.int (0 : Int32)), .unset] [(.int (frm2 s_Move_TO_DOCUMENT s_Move_CONVERSE_FIRST_CHILD s_Move_CONVERSE_NEXT_SIBLING s_Move_TO_DOCUMENT))])) (B := T238.setTop (mkF m 92 #[.val (.int p1), .val (.int (5 : Int32)), .val (.ref s_Move_FROM_DOCUMENT), .val (.int (frm2 s_Move_FROM_DOCUMENT s_Move_CONVERSE_FIRST_CHILD s_Move_CONVERSE_NEXT_SIBLING s_Move_TO_DOCUMENT)), .val .null, .val (.int (0 : Int32)), .val (.int (frm2 s_Move_TO_DOCUMENT s_Move_CONVERSE_FIRST_CHILD s_Move_CONVERSE_NEXT_SIBLING s_Move_TO_DOCUMENT))] [(.int (0 : Int32)), (.int (frm2 s_Move_FROM_DOCUMENT s_Move_CONVERSE_FIRST_CHILD s_Move_CONVERSE_NEXT_SIBLING s_Move_TO_DOCUMENT))])) (fun t k => ?_) ?_
    · show Steps p.tables e below (T238.setTop (mkF m 87 #[.val (.int p1), .val (.int (5 : Int32)), .val (.ref s_Move_FROM_DOCUMENT), .val (.int (frm2 s_Move_FROM_DOCUMENT s_Move_CONVERSE_FIRST_CHILD s_Move_CONVERSE_NEXT_SIBLING s_Move_TO_DOCUMENT)), .val .null, .val (.int (0 : Int32)), .unset] [(.int (frm2 s_Move_TO_DOCUMENT s_Move_CONVERSE_FIRST_CHILD s_Move_CONVERSE_NEXT_SIBLING s_Move_TO_DOCUMENT))])) _
      refine XS.istore X238.here hx rfl (hb hby at_87) rfl (l' := #[.val (.int p1), .val (.int (5 : Int32)), .val (.ref s_Move_FROM_DOCUMENT), .val (.int (frm2 s_Move_FROM_DOCUMENT s_Move_CONVERSE_FIRST_CHILD s_Move_CONVERSE_NEXT_SIBLING s_Move_TO_DOCUMENT)), .val .null, .val (.int (0 : Int32)), .val (.int (frm2 s_Move_TO_DOCUMENT s_Move_CONVERSE_FIRST_CHILD s_Move_CONVERSE_NEXT_SIBLING s_Move_TO_DOCUMENT))]) rfl ?_
      show Steps p.tables e below (T238.setTop (mkF m 89 #[.val (.int p1), .val (.int (5 : Int32)), .val (.ref s_Move_FROM_DOCUMENT), .val (.int (frm2 s_Move_FROM_DOCUMENT s_Move_CONVERSE_FIRST_CHILD s_Move_CONVERSE_NEXT_SIBLING s_Move_TO_DOCUMENT)), .val .null, .val (.int (0 : Int32)), .val (.int (frm2 s_Move_TO_DOCUMENT s_Move_CONVERSE_FIRST_CHILD s_Move_CONVERSE_NEXT_SIBLING s_Move_TO_DOCUMENT))] [])) _
      refine XS.iloadN X238.here hx rfl (hb hby at_89) rfl ?_
      show Steps p.tables e below (T238.setTop (mkF m 90 #[.val (.int p1), .val (.int (5 : Int32)), .val (.ref s_Move_FROM_DOCUMENT), .val (.int (frm2 s_Move_FROM_DOCUMENT s_Move_CONVERSE_FIRST_CHILD s_Move_CONVERSE_NEXT_SIBLING s_Move_TO_DOCUMENT)), .val .null, .val (.int (0 : Int32)), .val (.int (frm2 s_Move_TO_DOCUMENT s_Move_CONVERSE_FIRST_CHILD s_Move_CONVERSE_NEXT_SIBLING s_Move_TO_DOCUMENT))] [(.int (frm2 s_Move_FROM_DOCUMENT s_Move_CONVERSE_FIRST_CHILD s_Move_CONVERSE_NEXT_SIBLING s_Move_TO_DOCUMENT))])) _
      refine XS.iload X238.here hx rfl (hb hby at_90) rfl ?_
      exact k
    have hc92_239 : ((frm2 s_Move_FROM_DOCUMENT s_Move_CONVERSE_FIRST_CHILD s_Move_CONVERSE_NEXT_SIBLING s_Move_TO_DOCUMENT) = (0 : Int32)) := by simp [frm2, ne_s_Move_TO_DOCUMENT_s_Move_CONVERSE_FIRST_CHILD, ne_s_Move_TO_DOCUMENT_s_Move_CONVERSE_NEXT_SIBLING, ne_s_Move_FROM_DOCUMENT_s_Move_CONVERSE_FIRST_CHILD, ne_s_Move_FROM_DOCUMENT_s_Move_CONVERSE_NEXT_SIBLING, ne_s_Move_FROM_DOCUMENT_s_Move_TO_DOCUMENT]
    refine own_go (A := T238.setTop (mkF m 92 #[.val (.int p1), .val (.int (5 : Int32)), .val (.ref s_Move_FROM_DOCUMENT), .val (.int (frm2 s_Move_FROM_DOCUMENT s_Move_CONVERSE_FIRST_CHILD s_Move_CONVERSE_NEXT_SIBLING s_Move_TO_DOCUMENT)), .val .null, .val (.int (0 : Int32)), .val (.int (frm2 s_Move_TO_DOCUMENT s_Move_CONVERSE_FIRST_CHILD s_Move_CONVERSE_NEXT_SIBLING s_Move_TO_DOCUMENT))] [(.int (0 : Int32)), (.int (frm2 s_Move_FROM_DOCUMENT s_Move_CONVERSE_FIRST_CHILD s_Move_CONVERSE_NEXT_SIBLING s_Move_TO_DOCUMENT))])) (B := T238.setTop (mkF m 98 #[.val (.int p1), .val (.int (5 : Int32)), .val (.ref s_Move_FROM_DOCUMENT), .val (.int (frm2 s_Move_FROM_DOCUMENT s_Move_CONVERSE_FIRST_CHILD s_Move_CONVERSE_NEXT_SIBLING s_Move_TO_DOCUMENT)), .val .null, .val (.int (0 : Int32)), .val (.int (frm2 s_Move_TO_DOCUMENT s_Move_CONVERSE_FIRST_CHILD s_Move_CONVERSE_NEXT_SIBLING s_Move_TO_DOCUMENT))] [(.int (frm2 s_Move_TO_DOCUMENT s_Move_CONVERSE_FIRST_CHILD s_Move_CONVERSE_NEXT_SIBLING s_Move_TO_DOCUMENT)), (.int (frm2 s_Move_FROM_DOCUMENT s_Move_CONVERSE_FIRST_CHILD s_Move_CONVERSE_NEXT_SIBLING s_Move_TO_DOCUMENT))])) (fun t k => ?_) ?_
    · show Steps p.tables e below (T238.setTop (mkF m 92 #[.val (.int p1), .val (.int (5 : Int32)), .val (.ref s_Move_FROM_DOCUMENT), .val (.int (frm2 s_Move_FROM_DOCUMENT s_Move_CONVERSE_FIRST_CHILD s_Move_CONVERSE_NEXT_SIBLING s_Move_TO_DOCUMENT)), .val .null, .val (.int (0 : Int32)), .val (.int (frm2 s_Move_TO_DOCUMENT s_Move_CONVERSE_FIRST_CHILD s_Move_CONVERSE_NEXT_SIBLING s_Move_TO_DOCUMENT))] [(.int (0 : Int32)), (.int (frm2 s_Move_FROM_DOCUMENT s_Move_CONVERSE_FIRST_CHILD s_Move_CONVERSE_NEXT_SIBLING s_Move_TO_DOCUMENT))])) _
      refine XS.icmpNo X238.here hx rfl (hb hby at_92) rfl (teq hc92_239).2 ?_
      show Steps p.tables e below (T238.setTop (mkF m 95 #[.val (.int p1), .val (.int (5 : Int32)), .val (.ref s_Move_FROM_DOCUMENT), .val (.int (frm2 s_Move_FROM_DOCUMENT s_Move_CONVERSE_FIRST_CHILD s_Move_CONVERSE_NEXT_SIBLING s_Move_TO_DOCUMENT)), .val .null, .val (.int (0 : Int32)), .val (.int (frm2 s_Move_TO_DOCUMENT s_Move_CONVERSE_FIRST_CHILD s_Move_CONVERSE_NEXT_SIBLING s_Move_TO_DOCUMENT))] [])) _
      refine XS.iloadN X238.here hx rfl (hb hby at_95) rfl ?_
      show Steps p.tables e below (T238.setTop (mkF m 96 #[.val (.int p1), .val (.int (5 : Int32)), .val (.ref s_Move_FROM_DOCUMENT), .val (.int (frm2 s_Move_FROM_DOCUMENT s_Move_CONVERSE_FIRST_CHILD s_Move_CONVERSE_NEXT_SIBLING s_Move_TO_DOCUMENT)), .val .null, .val (.int (0 : Int32)), .val (.int (frm2 s_Move_TO_DOCUMENT s_Move_CONVERSE_FIRST_CHILD s_Move_CONVERSE_NEXT_SIBLING s_Move_TO_DOCUMENT))] [(.int (frm2 s_Move_FROM_DOCUMENT s_Move_CONVERSE_FIRST_CHILD s_Move_CONVERSE_NEXT_SIBLING s_Move_TO_DOCUMENT))])) _
      refine XS.iload X238.here hx rfl (hb hby at_96) rfl ?_
      exact k
    have hc98_240 : ¬ ((frm2 s_Move_FROM_DOCUMENT s_Move_CONVERSE_FIRST_CHILD s_Move_CONVERSE_NEXT_SIBLING s_Move_TO_DOCUMENT) = (frm2 s_Move_TO_DOCUMENT s_Move_CONVERSE_FIRST_CHILD s_Move_CONVERSE_NEXT_SIBLING s_Move_TO_DOCUMENT)) := by simp [frm2, ne_s_Move_TO_DOCUMENT_s_Move_CONVERSE_FIRST_CHILD, ne_s_Move_TO_DOCUMENT_s_Move_CONVERSE_NEXT_SIBLING, ne_s_Move_FROM_DOCUMENT_s_Move_CONVERSE_FIRST_CHILD, ne_s_Move_FROM_DOCUMENT_s_Move_CONVERSE_NEXT_SIBLING, ne_s_Move_FROM_DOCUMENT_s_Move_TO_DOCUMENT]
    refine own_go (A := T238.setTop (mkF m 98 #[.val (.int p1), .val (.int (5 : Int32)), .val (.ref s_Move_FROM_DOCUMENT), .val (.int (frm2 s_Move_FROM_DOCUMENT s_Move_CONVERSE_FIRST_CHILD s_Move_CONVERSE_NEXT_SIBLING s_Move_TO_DOCUMENT)), .val .null, .val (.int (0 : Int32)), .val (.int (frm2 s_Move_TO_DOCUMENT s_Move_CONVERSE_FIRST_CHILD s_Move_CONVERSE_NEXT_SIBLING s_Move_TO_DOCUMENT))] [(.int (frm2 s_Move_TO_DOCUMENT s_Move_CONVERSE_FIRST_CHILD s_Move_CONVERSE_NEXT_SIBLING s_Move_TO_DOCUMENT)), (.int (frm2 s_Move_FROM_DOCUMENT s_Move_CONVERSE_FIRST_CHILD s_Move_CONVERSE_NEXT_SIBLING s_Move_TO_DOCUMENT))])) (B := T238.setTop (mkF m 106 #[.val (.int p1), .val (.int (5 : Int32)), .val (.ref s_Move_FROM_DOCUMENT), .val (.int (frm2 s_Move_FROM_DOCUMENT s_Move_CONVERSE_FIRST_CHILD s_Move_CONVERSE_NEXT_SIBLING s_Move_TO_DOCUMENT)), .val .null, .val (.int (0 : Int32)), .val (.int (frm2 s_Move_TO_DOCUMENT s_Move_CONVERSE_FIRST_CHILD s_Move_CONVERSE_NEXT_SIBLING s_Move_TO_DOCUMENT))] [(.int (1 : Int32))])) (fun t k => ?_) ?_
    · show Steps p.tables e below (T238.setTop (mkF m 98 #[.val (.int p1), .val (.int (5 : Int32)), .val (.ref s_Move_FROM_DOCUMENT), .val (.int (frm2 s_Move_FROM_DOCUMENT s_Move_CONVERSE_FIRST_CHILD s_Move_CONVERSE_NEXT_SIBLING s_Move_TO_DOCUMENT)), .val .null, .val (.int (0 : Int32)), .val (.int (frm2 s_Move_TO_DOCUMENT s_Move_CONVERSE_FIRST_CHILD s_Move_CONVERSE_NEXT_SIBLING s_Move_TO_DOCUMENT))] [(.int (frm2 s_Move_TO_DOCUMENT s_Move_CONVERSE_FIRST_CHILD s_Move_CONVERSE_NEXT_SIBLING s_Move_TO_DOCUMENT)), (.int (frm2 s_Move_FROM_DOCUMENT s_Move_CONVERSE_FIRST_CHILD s_Move_CONVERSE_NEXT_SIBLING s_Move_TO_DOCUMENT))])) _
      refine XS.icmpNo X238.here hx rfl (hb hby at_98) rfl (feq hc98_240).1 ?_
      show Steps p.tables e below (T238.setTop (mkF m 101 #[.val (.int p1), .val (.int (5 : Int32)), .val (.ref s_Move_FROM_DOCUMENT), .val (.int (frm2 s_Move_FROM_DOCUMENT s_Move_CONVERSE_FIRST_CHILD s_Move_CONVERSE_NEXT_SIBLING s_Move_TO_DOCUMENT)), .val .null, .val (.int (0 : Int32)), .val (.int (frm2 s_Move_TO_DOCUMENT s_Move_CONVERSE_FIRST_CHILD s_Move_CONVERSE_NEXT_SIBLING s_Move_TO_DOCUMENT))] [])) _
      refine XS.iconst X238.here hx rfl (hb hby at_101) ?_
      show Steps p.tables e below (T238.setTop (mkF m 102 #[.val (.int p1), .val (.int (5 : Int32)), .val (.ref s_Move_FROM_DOCUMENT), .val (.int (frm2 s_Move_FROM_DOCUMENT s_Move_CONVERSE_FIRST_CHILD s_Move_CONVERSE_NEXT_SIBLING s_Move_TO_DOCUMENT)), .val .null, .val (.int (0 : Int32)), .val (.int (frm2 s_Move_TO_DOCUMENT s_Move_CONVERSE_FIRST_CHILD s_Move_CONVERSE_NEXT_SIBLING s_Move_TO_DOCUMENT))] [(.int (1 : Int32))])) _
      refine XS.goto X238.here hx rfl (pc0 := 102) (pc' := 106) rfl (hb hby at_102) (by decide) (by decide) ?_
      exact k
    obtain ⟨fs, hr, hrun, hended, hW, hsame⟩ := X238.leave (v := some (.int (1 : Int32))) (fun h => by rw [Bd.returns] at h; cases h)
    refine ⟨_, _, ?_, hrun, hended, _, _, rfl, ?_, ⟨_, rfl⟩, hW, hsame.mono (by decide) (by decide)⟩
    · show Steps p.tables e below (T238.setTop (mkF m 106 #[.val (.int p1), .val (.int (5 : Int32)), .val (.ref s_Move_FROM_DOCUMENT), .val (.int (frm2 s_Move_FROM_DOCUMENT s_Move_CONVERSE_FIRST_CHILD s_Move_CONVERSE_NEXT_SIBLING s_Move_TO_DOCUMENT)), .val .null, .val (.int (0 : Int32)), .val (.int (frm2 s_Move_TO_DOCUMENT s_Move_CONVERSE_FIRST_CHILD s_Move_CONVERSE_NEXT_SIBLING s_Move_TO_DOCUMENT))] [(.int (1 : Int32))])) _
      exact retN X238 hx (t := .boolean) Bd.returns (by simp) (hb hby at_106) hr
    · show Qrm0N Z p1 cs s_Move_FIRST_CHILD s_Move_NEXT_SIBLING s_Move_CONVERSE_FIRST_CHILD s_Move_CONVERSE_NEXT_SIBLING s_Move_TO_DOCUMENT s_Move_FROM_DOCUMENT s_Modality_FIRST_CHILD t0 v0 kk0 s_Modality_NEXT_SIBLING t1 v1 kk1 s_Modality_CONVERSE_FIRST_CHILD t2 v2 kk2 s_Modality_CONVERSE_NEXT_SIBLING t3 v3 kk3 h0 n0 _ T238.heap _
      rw [e238]
      exact ⟨rfl, N238⟩
theorem own_eqref {args : Array Value} {s : State} {t u : Term} {a : Addr} (h : (Jvm.Cond.eq t u).value args s none s [] = some true) (hu : u.eval args s none [] s = some (.ref a)) : t.eval args s none [] s = some (.ref a) := by
  simp only [Cond.value, hu] at h
  cases ht : t.eval args s none [] s with
  | none => simp [ht] at h
  | some x => cases x <;> simp [ht] at h ⊢; exact h
theorem own_arv {args : Array Value} {s : State} {t : Term} {a : Addr} {z : Int32} {vs : List Value} (hf : Fit s) (ev : t.eval args s none [] s = some (.ref a)) (hx : (Jvm.Cond.arrayOf t .byte).value args s none s [] = some true) (hl : (Jvm.Cond.eq (.length t) (.int z)).value args s none s [] = some true) (hz : ¬ z < 0) (hv : z.toNatClampNeg = vs.length)
    (he : ∀ j, j < vs.length → (Jvm.Cond.eq (.elem t (.int j.toInt32)) (.int (match vs.getD j .null with | .int y => y | _ => 0))).value args s none s [] = some true) (hi : ∀ j, j < vs.length → ∃ y : Int32, vs.getD j .null = .int y) (hvl : vs.length < 2 ^ 31) : ∃ k, Arv s s.heap a k .byte z vs (.int 0) := by
  obtain ⟨cl, A⟩ := Arr.start ev hx
  have hlen := own_eqint hl
  have hsz : cl.slots.size < 2 ^ 31 ∧ cl.slots.size.toInt32 = z := by
    have hat := A.fin (Vm.Alike.refl _)
    by_cases q : cl.slots.size < 2 ^ 31
    · rw [len_f ev hat q] at hlen; exact ⟨q, by simpa using hlen⟩
    · exfalso; simp [Term.eval, ev, hat, q] at hlen
  have hn : cl.slots.size = vs.length := by
    rw [← hv, ← hsz.2]
    have := len_toInt hsz.1
    simp only [Int32.toNatClampNeg, this]; omega
  refine ⟨cl.cls, Arv.start hf A hsz.1 hsz.2 hz hv ?_⟩
  have key : ∀ j, j < vs.length → cl.slots[j]? = some (vs.getD j .null) := fun j hj => by
    obtain ⟨y, hy⟩ := hi j hj
    have h1 := own_eqint (he j hj)
    rw [hy] at h1 ⊢
    have e1 : (Term.int j.toInt32).eval args s none [] s = some (.int j.toInt32) := rfl
    have h2 := (elem_in h1 ev e1 A.1).2
    have e2 : j.toInt32.toNatClampNeg = j := by have := len_toInt (n := j) (by omega); simp only [Int32.toNatClampNeg, this]; omega
    rw [e2] at h2; exact h2
  have gen : ∀ (us : List Value) (i : Nat), (∀ j, j < us.length → cl.slots[i + j]? = some (us.getD j .null)) → HasL cl i us := by
    intro us
    induction us with
    | nil => intro i _; trivial
    | cons u us ih =>
      intro i hk
      refine ⟨by simpa using hk 0 (by simp), ih (i + 1) fun j hj => ?_⟩
      have := hk (j + 1) (by simpa using hj)
      rw [show i + 1 + j = i + (j + 1) by omega]; simpa using this
  exact gen vs 0 (by simpa using key)
set_option maxRecDepth 65536 in
set_option maxHeartbeats 40000000 in
theorem comes_1 {Post : Tables → Env → Array Value → State → Outcome → State → Prop} (hpost : ∀ tb e args s v u, (limb_1_1.after args s (.returned v) u = true ∧ limb_1_2.after args s (.returned v) u = true ∧ True) → FrameEnd s (.returned v) u (Jvm.fieldLocs frame_1_writes args s ++ Jvm.arrayLocs frame_1_arrays args s ++ Jvm.staticLocs frame_1_statics s) 0 0 → Post tb e args s (.returned v) u) :
    ArmFor flags0 classFile x code maxLocals ret World_1 tables_1 room_1 Calls_1 rest_1 Pre_1 Post := by
  intro l hfl _ _ p e ha hc hk s m args below hf hA hF happ hP
  obtain ⟨hcalls, hrest, hpre⟩ := hP
  obtain ⟨-, -, -, hnamed, -, -, -, hat⟩ := (Spec.applies_iff hf).mp happ
  obtain ⟨hg, hn⟩ := and_e (Cond.before_iff.mp (show (Jvm.Cond.and given_1 narrow_1).before args s = true from hpre))
  obtain ⟨hg0, hgs⟩ := and_e hg
  obtain ⟨w0, rfl⟩ : ∃ w0 : Value, args = #[w0] := by
    have hs : args.size = 1 := by simpa [Cond.value, given_1] using hg0
    obtain ⟨L⟩ := args
    match L, hs with
    | [w0], _ => exact ⟨w0, rfl⟩
  have hw := fun d (hd : d ∈ tables_1) => atoms_spec (ws := Jvm.Cond.code x code maxLocals ret :: tables_1) hat d (List.mem_cons_of_mem _ hd)
  have hfit : Fit s := fun {y c} hc i hi => by
    obtain ⟨ha, rfl⟩ := Array.getElem?_eq_some_iff.mp hc
    have q := List.all_eq_true.mp ((Array.all_eq_true_iff_forall_mem.mp hF) _ (Array.getElem_mem ha)) i (List.mem_range.mpr hi)
    simpa [Array.getElem?_eq_getElem hi] using q
  obtain ⟨hsets, hown0⟩ := atoms_of _ (rest_1_c_eq ▸ (show rest_1_c.before _ s = true from hrest))
  have hr0 := Cond.before_iff.mp hown0
  obtain ⟨i0, ei0⟩ := is_v hgs
  obtain rfl : w0 = (.int i0) := Option.some.inj ei0
  obtain ⟨nw0, nr0⟩ := and_e hn
  obtain ⟨nw1, nr1⟩ := and_e nr0
  obtain ⟨nw2, nr2⟩ := and_e nr1
  obtain ⟨nw3, nr3⟩ := and_e nr2
  obtain ⟨nw4, nr4⟩ := and_e nr3
  obtain ⟨nw5, nr5⟩ := and_e nr4
  obtain ⟨nw6, nr6⟩ := and_e nr5
  obtain ⟨nw7, nr7⟩ := and_e nr6
  obtain ⟨nw8, nr8⟩ := and_e nr7
  obtain ⟨nw9, nr9⟩ := and_e nr8
  obtain ⟨nw10, nr10⟩ := and_e nr9
  obtain ⟨nw11, nr11⟩ := and_e nr10
  obtain ⟨nw12, nr12⟩ := and_e nr11
  obtain ⟨nw13, nr13⟩ := and_e nr12
  obtain ⟨nw14, nr14⟩ := and_e nr13
  obtain ⟨nw15, nr15⟩ := and_e nr14
  obtain ⟨nw16, nr16⟩ := and_e nr15
  obtain ⟨nw17, nr17⟩ := and_e nr16
  obtain ⟨nw18, nr18⟩ := and_e nr17
  obtain ⟨nw19, nr19⟩ := and_e nr18
  obtain ⟨nw20, nr20⟩ := and_e nr19
  obtain ⟨nw21, nr21⟩ := and_e nr20
  obtain ⟨nw22, nr22⟩ := and_e nr21
  obtain ⟨nw23, nr23⟩ := and_e nr22
  obtain ⟨nw24, nr24⟩ := and_e nr23
  obtain ⟨nw25, nr25⟩ := and_e nr24
  obtain ⟨nw26, nr26⟩ := and_e nr25
  obtain ⟨nw27, nr27⟩ := and_e nr26
  obtain ⟨nw28, nr28⟩ := and_e nr27
  obtain ⟨nw29, nr29⟩ := and_e nr28
  obtain ⟨nw30, nr30⟩ := and_e nr29
  obtain ⟨nw31, nr31⟩ := and_e nr30
  obtain ⟨nw32, nr32⟩ := and_e nr31
  obtain ⟨nw33, nr33⟩ := and_e nr32
  obtain ⟨nw34, nr34⟩ := and_e nr33
  obtain ⟨nw35, nr35⟩ := and_e nr34
  obtain ⟨nw36, nr36⟩ := and_e nr35
  obtain ⟨nw37, nr37⟩ := and_e nr36
  obtain ⟨nw38, nr38⟩ := and_e nr37
  obtain ⟨nw39, nr39⟩ := and_e nr38
  obtain ⟨nw40, nr40⟩ := and_e nr39
  obtain ⟨nw41, nr41⟩ := and_e nr40
  obtain ⟨nw42, nr42⟩ := and_e nr41
  obtain ⟨nw43, nr43⟩ := and_e nr42
  obtain ⟨nw44, nr44⟩ := and_e nr43
  obtain ⟨nw45, nr45⟩ := and_e nr44
  obtain ⟨nw46, nr46⟩ := and_e nr45
  obtain ⟨nw47, nr47⟩ := and_e nr46
  obtain ⟨nw48, nr48⟩ := and_e nr47
  obtain ⟨nw49, nr49⟩ := and_e nr48
  obtain ⟨nw50, nr50⟩ := and_e nr49
  obtain ⟨s_Move_FIRST_CHILD, ev_s_Move_FIRST_CHILD⟩ := exa_v nw0
  have S_s_Move_FIRST_CHILD : Sta s s.heap "com/example/decider/decider/library/xpath/Move" "FIRST_CHILD" "Lcom/example/decider/decider/library/xpath/Move;" (.ref s_Move_FIRST_CHILD) := Sta.start ev_s_Move_FIRST_CHILD (Or.inr ⟨(hw _ (List.mem_of_getElem? (i := 6) rfl)), (hw _ (List.mem_of_getElem? (i := 7) rfl))⟩)
  have E_s_Move_FIRST_CHILD : Exa s s.heap s_Move_FIRST_CHILD "com/example/decider/decider/library/xpath/Move" := Exa.start ev_s_Move_FIRST_CHILD nw0
  obtain ⟨s_Move_CONVERSE_FIRST_CHILD, ev_s_Move_CONVERSE_FIRST_CHILD⟩ := exa_v nw1
  have S_s_Move_CONVERSE_FIRST_CHILD : Sta s s.heap "com/example/decider/decider/library/xpath/Move" "CONVERSE_FIRST_CHILD" "Lcom/example/decider/decider/library/xpath/Move;" (.ref s_Move_CONVERSE_FIRST_CHILD) := Sta.start ev_s_Move_CONVERSE_FIRST_CHILD (Or.inr ⟨(hw _ (List.mem_of_getElem? (i := 6) rfl)), (hw _ (List.mem_of_getElem? (i := 14) rfl))⟩)
  have E_s_Move_CONVERSE_FIRST_CHILD : Exa s s.heap s_Move_CONVERSE_FIRST_CHILD "com/example/decider/decider/library/xpath/Move" := Exa.start ev_s_Move_CONVERSE_FIRST_CHILD nw1
  obtain ⟨s_Move_CONVERSE_NEXT_SIBLING, ev_s_Move_CONVERSE_NEXT_SIBLING⟩ := exa_v nw4
  have S_s_Move_CONVERSE_NEXT_SIBLING : Sta s s.heap "com/example/decider/decider/library/xpath/Move" "CONVERSE_NEXT_SIBLING" "Lcom/example/decider/decider/library/xpath/Move;" (.ref s_Move_CONVERSE_NEXT_SIBLING) := Sta.start ev_s_Move_CONVERSE_NEXT_SIBLING (Or.inr ⟨(hw _ (List.mem_of_getElem? (i := 6) rfl)), (hw _ (List.mem_of_getElem? (i := 16) rfl))⟩)
  have E_s_Move_CONVERSE_NEXT_SIBLING : Exa s s.heap s_Move_CONVERSE_NEXT_SIBLING "com/example/decider/decider/library/xpath/Move" := Exa.start ev_s_Move_CONVERSE_NEXT_SIBLING nw4
  obtain ⟨s_Move_TO_DOCUMENT, ev_s_Move_TO_DOCUMENT⟩ := exa_v nw6
  have S_s_Move_TO_DOCUMENT : Sta s s.heap "com/example/decider/decider/library/xpath/Move" "TO_DOCUMENT" "Lcom/example/decider/decider/library/xpath/Move;" (.ref s_Move_TO_DOCUMENT) := Sta.start ev_s_Move_TO_DOCUMENT (Or.inr ⟨(hw _ (List.mem_of_getElem? (i := 6) rfl)), (hw _ (List.mem_of_getElem? (i := 18) rfl))⟩)
  have E_s_Move_TO_DOCUMENT : Exa s s.heap s_Move_TO_DOCUMENT "com/example/decider/decider/library/xpath/Move" := Exa.start ev_s_Move_TO_DOCUMENT nw6
  obtain ⟨s_Modality_FIRST_CHILD, ev_s_Modality_FIRST_CHILD⟩ := exa_v nw8
  have S_s_Modality_FIRST_CHILD : Sta s s.heap "com/example/decider/decider/logic/formula/Modality" "FIRST_CHILD" "Lcom/example/decider/decider/logic/formula/Modality;" (.ref s_Modality_FIRST_CHILD) := Sta.start ev_s_Modality_FIRST_CHILD (Or.inr ⟨(hw _ (List.mem_of_getElem? (i := 26) rfl)), (hw _ (List.mem_of_getElem? (i := 27) rfl))⟩)
  have E_s_Modality_FIRST_CHILD : Exa s s.heap s_Modality_FIRST_CHILD "com/example/decider/decider/logic/formula/Modality" := Exa.start ev_s_Modality_FIRST_CHILD nw8
  obtain ⟨s_Modality_CONVERSE_NEXT_SIBLING, ev_s_Modality_CONVERSE_NEXT_SIBLING⟩ := exa_v nw15
  have S_s_Modality_CONVERSE_NEXT_SIBLING : Sta s s.heap "com/example/decider/decider/logic/formula/Modality" "CONVERSE_NEXT_SIBLING" "Lcom/example/decider/decider/logic/formula/Modality;" (.ref s_Modality_CONVERSE_NEXT_SIBLING) := Sta.start ev_s_Modality_CONVERSE_NEXT_SIBLING (Or.inr ⟨(hw _ (List.mem_of_getElem? (i := 26) rfl)), (hw _ (List.mem_of_getElem? (i := 88) rfl))⟩)
  have E_s_Modality_CONVERSE_NEXT_SIBLING : Exa s s.heap s_Modality_CONVERSE_NEXT_SIBLING "com/example/decider/decider/logic/formula/Modality" := Exa.start ev_s_Modality_CONVERSE_NEXT_SIBLING nw15
  obtain ⟨s_Move_NEXT_SIBLING, ev_s_Move_NEXT_SIBLING⟩ := exa_v nw22
  have S_s_Move_NEXT_SIBLING : Sta s s.heap "com/example/decider/decider/library/xpath/Move" "NEXT_SIBLING" "Lcom/example/decider/decider/library/xpath/Move;" (.ref s_Move_NEXT_SIBLING) := Sta.start ev_s_Move_NEXT_SIBLING (Or.inr ⟨(hw _ (List.mem_of_getElem? (i := 6) rfl)), (hw _ (List.mem_of_getElem? (i := 90) rfl))⟩)
  have E_s_Move_NEXT_SIBLING : Exa s s.heap s_Move_NEXT_SIBLING "com/example/decider/decider/library/xpath/Move" := Exa.start ev_s_Move_NEXT_SIBLING nw22
  obtain ⟨s_Modality_CONVERSE_FIRST_CHILD, ev_s_Modality_CONVERSE_FIRST_CHILD⟩ := exa_v nw24
  have S_s_Modality_CONVERSE_FIRST_CHILD : Sta s s.heap "com/example/decider/decider/logic/formula/Modality" "CONVERSE_FIRST_CHILD" "Lcom/example/decider/decider/logic/formula/Modality;" (.ref s_Modality_CONVERSE_FIRST_CHILD) := Sta.start ev_s_Modality_CONVERSE_FIRST_CHILD (Or.inr ⟨(hw _ (List.mem_of_getElem? (i := 26) rfl)), (hw _ (List.mem_of_getElem? (i := 92) rfl))⟩)
  have E_s_Modality_CONVERSE_FIRST_CHILD : Exa s s.heap s_Modality_CONVERSE_FIRST_CHILD "com/example/decider/decider/logic/formula/Modality" := Exa.start ev_s_Modality_CONVERSE_FIRST_CHILD nw24
  obtain ⟨s_Modality_NEXT_SIBLING, ev_s_Modality_NEXT_SIBLING⟩ := exa_v nw31
  have S_s_Modality_NEXT_SIBLING : Sta s s.heap "com/example/decider/decider/logic/formula/Modality" "NEXT_SIBLING" "Lcom/example/decider/decider/logic/formula/Modality;" (.ref s_Modality_NEXT_SIBLING) := Sta.start ev_s_Modality_NEXT_SIBLING (Or.inr ⟨(hw _ (List.mem_of_getElem? (i := 26) rfl)), (hw _ (List.mem_of_getElem? (i := 95) rfl))⟩)
  have E_s_Modality_NEXT_SIBLING : Exa s s.heap s_Modality_NEXT_SIBLING "com/example/decider/decider/logic/formula/Modality" := Exa.start ev_s_Modality_NEXT_SIBLING nw31
  obtain ⟨s_Move_FROM_DOCUMENT, ev_s_Move_FROM_DOCUMENT⟩ := exa_v nw38
  have S_s_Move_FROM_DOCUMENT : Sta s s.heap "com/example/decider/decider/library/xpath/Move" "FROM_DOCUMENT" "Lcom/example/decider/decider/library/xpath/Move;" (.ref s_Move_FROM_DOCUMENT) := Sta.start ev_s_Move_FROM_DOCUMENT (Or.inr ⟨(hw _ (List.mem_of_getElem? (i := 6) rfl)), (hw _ (List.mem_of_getElem? (i := 97) rfl))⟩)
  have E_s_Move_FROM_DOCUMENT : Exa s s.heap s_Move_FROM_DOCUMENT "com/example/decider/decider/library/xpath/Move" := Exa.start ev_s_Move_FROM_DOCUMENT nw38
  have O_s_Move_FIRST_CHILD : Fld s s.heap s_Move_FIRST_CHILD "java/lang/Enum" "ordinal" "I" (.int (0 : Int32)) := Fld.start ((fld_at ev_s_Move_FIRST_CHILD).symm.trans (own_eqint nw2))
  have O_s_Move_CONVERSE_FIRST_CHILD : Fld s s.heap s_Move_CONVERSE_FIRST_CHILD "java/lang/Enum" "ordinal" "I" (.int (2 : Int32)) := Fld.start ((fld_at ev_s_Move_CONVERSE_FIRST_CHILD).symm.trans (own_eqint nw3))
  have O_s_Move_CONVERSE_NEXT_SIBLING : Fld s s.heap s_Move_CONVERSE_NEXT_SIBLING "java/lang/Enum" "ordinal" "I" (.int (3 : Int32)) := Fld.start ((fld_at ev_s_Move_CONVERSE_NEXT_SIBLING).symm.trans (own_eqint nw5))
  have O_s_Move_TO_DOCUMENT : Fld s s.heap s_Move_TO_DOCUMENT "java/lang/Enum" "ordinal" "I" (.int (4 : Int32)) := Fld.start ((fld_at ev_s_Move_TO_DOCUMENT).symm.trans (own_eqint nw7))
  have O_s_Move_NEXT_SIBLING : Fld s s.heap s_Move_NEXT_SIBLING "java/lang/Enum" "ordinal" "I" (.int (1 : Int32)) := Fld.start ((fld_at ev_s_Move_NEXT_SIBLING).symm.trans (own_eqint nw23))
  have O_s_Move_FROM_DOCUMENT : Fld s s.heap s_Move_FROM_DOCUMENT "java/lang/Enum" "ordinal" "I" (.int (5 : Int32)) := Fld.start ((fld_at ev_s_Move_FROM_DOCUMENT).symm.trans (own_eqint nw39))
  have MO_0 : Fld s s.heap s_Move_FIRST_CHILD "com/example/decider/decider/library/xpath/Move" "modality" "Lcom/example/decider/decider/logic/formula/Modality;" (.ref s_Modality_FIRST_CHILD) := Fld.start ((fld_at ev_s_Move_FIRST_CHILD).symm.trans (own_eqref nw9 ev_s_Modality_FIRST_CHILD))
  have MO_1 : Fld s s.heap s_Move_NEXT_SIBLING "com/example/decider/decider/library/xpath/Move" "modality" "Lcom/example/decider/decider/logic/formula/Modality;" (.ref s_Modality_NEXT_SIBLING) := Fld.start ((fld_at ev_s_Move_NEXT_SIBLING).symm.trans (own_eqref nw32 ev_s_Modality_NEXT_SIBLING))
  have MO_2 : Fld s s.heap s_Move_CONVERSE_FIRST_CHILD "com/example/decider/decider/library/xpath/Move" "modality" "Lcom/example/decider/decider/logic/formula/Modality;" (.ref s_Modality_CONVERSE_FIRST_CHILD) := Fld.start ((fld_at ev_s_Move_CONVERSE_FIRST_CHILD).symm.trans (own_eqref nw25 ev_s_Modality_CONVERSE_FIRST_CHILD))
  have MO_3 : Fld s s.heap s_Move_CONVERSE_NEXT_SIBLING "com/example/decider/decider/library/xpath/Move" "modality" "Lcom/example/decider/decider/logic/formula/Modality;" (.ref s_Modality_CONVERSE_NEXT_SIBLING) := Fld.start ((fld_at ev_s_Move_CONVERSE_NEXT_SIBLING).symm.trans (own_eqref nw16 ev_s_Modality_CONVERSE_NEXT_SIBLING))
  have MO_4 : Fld s s.heap s_Move_TO_DOCUMENT "com/example/decider/decider/library/xpath/Move" "modality" "Lcom/example/decider/decider/logic/formula/Modality;" .null := Fld.start ((fld_at ev_s_Move_TO_DOCUMENT).symm.trans (null_v nw41))
  have MO_5 : Fld s s.heap s_Move_FROM_DOCUMENT "com/example/decider/decider/library/xpath/Move" "modality" "Lcom/example/decider/decider/logic/formula/Modality;" .null := Fld.start ((fld_at ev_s_Move_FROM_DOCUMENT).symm.trans (null_v nw40))
  obtain ⟨t0, ev_t0⟩ := exa_v nw10
  have SP_0 : Fld s s.heap s_Modality_FIRST_CHILD "com/example/decider/decider/logic/formula/Modality" "spelling" "Ljava/lang/String;" (.ref t0) := Fld.start ((fld_at ev_s_Modality_FIRST_CHILD).symm.trans ev_t0)
  have ET_0 : Exa s s.heap t0 "java/lang/String" := Exa.start ev_t0 nw10
  obtain ⟨v0, ev_v0⟩ := arr_v nw11
  have VA_0 : Fld s s.heap t0 "java/lang/String" "value" "[B" (.ref v0) := Fld.start ((fld_at ev_t0).symm.trans ev_v0)
  have CO_0 : Fld s s.heap t0 "java/lang/String" "coder" "B" (.int (0 : Int32)) := Fld.start ((fld_at ev_t0).symm.trans (own_eqint nw13))
  obtain ⟨kk0, AV_0⟩ := own_arv (vs := [(.int (60 : Int32)), (.int (49 : Int32)), (.int (62 : Int32))]) hfit ev_v0 nw11 nw12 (by decide) rfl (fun j hj => by
    match j, hj with
    | 0, _ => exact nw42
    | 1, _ => exact nw14
    | 2, _ => exact nw43
    ) (fun j hj => by
    match j, hj with
    | 0, _ => exact ⟨_, rfl⟩
    | 1, _ => exact ⟨_, rfl⟩
    | 2, _ => exact ⟨_, rfl⟩
    ) (by decide)
  obtain ⟨t1, ev_t1⟩ := exa_v nw33
  have SP_1 : Fld s s.heap s_Modality_NEXT_SIBLING "com/example/decider/decider/logic/formula/Modality" "spelling" "Ljava/lang/String;" (.ref t1) := Fld.start ((fld_at ev_s_Modality_NEXT_SIBLING).symm.trans ev_t1)
  have ET_1 : Exa s s.heap t1 "java/lang/String" := Exa.start ev_t1 nw33
  obtain ⟨v1, ev_v1⟩ := arr_v nw34
  have VA_1 : Fld s s.heap t1 "java/lang/String" "value" "[B" (.ref v1) := Fld.start ((fld_at ev_t1).symm.trans ev_v1)
  have CO_1 : Fld s s.heap t1 "java/lang/String" "coder" "B" (.int (0 : Int32)) := Fld.start ((fld_at ev_t1).symm.trans (own_eqint nw36))
  obtain ⟨kk1, AV_1⟩ := own_arv (vs := [(.int (60 : Int32)), (.int (50 : Int32)), (.int (62 : Int32))]) hfit ev_v1 nw34 nw35 (by decide) rfl (fun j hj => by
    match j, hj with
    | 0, _ => exact nw50
    | 1, _ => exact nw37
    | 2, _ => exact nr50
    ) (fun j hj => by
    match j, hj with
    | 0, _ => exact ⟨_, rfl⟩
    | 1, _ => exact ⟨_, rfl⟩
    | 2, _ => exact ⟨_, rfl⟩
    ) (by decide)
  obtain ⟨t2, ev_t2⟩ := exa_v nw26
  have SP_2 : Fld s s.heap s_Modality_CONVERSE_FIRST_CHILD "com/example/decider/decider/logic/formula/Modality" "spelling" "Ljava/lang/String;" (.ref t2) := Fld.start ((fld_at ev_s_Modality_CONVERSE_FIRST_CHILD).symm.trans ev_t2)
  have ET_2 : Exa s s.heap t2 "java/lang/String" := Exa.start ev_t2 nw26
  obtain ⟨v2, ev_v2⟩ := arr_v nw27
  have VA_2 : Fld s s.heap t2 "java/lang/String" "value" "[B" (.ref v2) := Fld.start ((fld_at ev_t2).symm.trans ev_v2)
  have CO_2 : Fld s s.heap t2 "java/lang/String" "coder" "B" (.int (0 : Int32)) := Fld.start ((fld_at ev_t2).symm.trans (own_eqint nw29))
  obtain ⟨kk2, AV_2⟩ := own_arv (vs := [(.int (60 : Int32)), (.int (45 : Int32)), (.int (49 : Int32)), (.int (62 : Int32))]) hfit ev_v2 nw27 nw28 (by decide) rfl (fun j hj => by
    match j, hj with
    | 0, _ => exact nw47
    | 1, _ => exact nw30
    | 2, _ => exact nw48
    | 3, _ => exact nw49
    ) (fun j hj => by
    match j, hj with
    | 0, _ => exact ⟨_, rfl⟩
    | 1, _ => exact ⟨_, rfl⟩
    | 2, _ => exact ⟨_, rfl⟩
    | 3, _ => exact ⟨_, rfl⟩
    ) (by decide)
  obtain ⟨t3, ev_t3⟩ := exa_v nw17
  have SP_3 : Fld s s.heap s_Modality_CONVERSE_NEXT_SIBLING "com/example/decider/decider/logic/formula/Modality" "spelling" "Ljava/lang/String;" (.ref t3) := Fld.start ((fld_at ev_s_Modality_CONVERSE_NEXT_SIBLING).symm.trans ev_t3)
  have ET_3 : Exa s s.heap t3 "java/lang/String" := Exa.start ev_t3 nw17
  obtain ⟨v3, ev_v3⟩ := arr_v nw18
  have VA_3 : Fld s s.heap t3 "java/lang/String" "value" "[B" (.ref v3) := Fld.start ((fld_at ev_t3).symm.trans ev_v3)
  have CO_3 : Fld s s.heap t3 "java/lang/String" "coder" "B" (.int (0 : Int32)) := Fld.start ((fld_at ev_t3).symm.trans (own_eqint nw20))
  obtain ⟨kk3, AV_3⟩ := own_arv (vs := [(.int (60 : Int32)), (.int (45 : Int32)), (.int (50 : Int32)), (.int (62 : Int32))]) hfit ev_v3 nw18 nw19 (by decide) rfl (fun j hj => by
    match j, hj with
    | 0, _ => exact nw44
    | 1, _ => exact nw21
    | 2, _ => exact nw45
    | 3, _ => exact nw46
    ) (fun j hj => by
    match j, hj with
    | 0, _ => exact ⟨_, rfl⟩
    | 1, _ => exact ⟨_, rfl⟩
    | 2, _ => exact ⟨_, rfl⟩
    | 3, _ => exact ⟨_, rfl⟩
    ) (by decide)
  obtain ⟨cs, ev_cs⟩ := is_v (Cond.before_iff.mp (hsets _ (List.mem_of_getElem? (i := 1) rfl)))
  have S_cs : Sta s s.heap "java/lang/String" "COMPACT_STRINGS" "Z" (.int cs) := Sta.start ev_cs (Or.inl (hsets _ (List.mem_of_getElem? (i := 0) rfl)))
  have hcs : ¬ (cs = (0 : Int32)) := fun q => by
    have q1 := not_v (Cond.before_iff.mp (hsets _ (List.mem_of_getElem? (i := 2) rfl)))
    have q2 := eq_i ev_cs (Term.int_eval (0 : Int32)) (by rw [q])
    rw [q2] at q1; simp at q1
  obtain ⟨fv, ev_fm, hfm⟩ := isR_v (Cond.before_iff.mp (hsets _ (List.mem_of_getElem? (i := 8) rfl)))
  have ne_s_Move_FIRST_CHILD_s_Move_CONVERSE_FIRST_CHILD : s_Move_FIRST_CHILD ≠ s_Move_CONVERSE_FIRST_CHILD := Fld.ne O_s_Move_FIRST_CHILD O_s_Move_CONVERSE_FIRST_CHILD (by simp)
  have ne_s_Move_FIRST_CHILD_s_Move_CONVERSE_NEXT_SIBLING : s_Move_FIRST_CHILD ≠ s_Move_CONVERSE_NEXT_SIBLING := Fld.ne O_s_Move_FIRST_CHILD O_s_Move_CONVERSE_NEXT_SIBLING (by simp)
  have ne_s_Move_FIRST_CHILD_s_Move_TO_DOCUMENT : s_Move_FIRST_CHILD ≠ s_Move_TO_DOCUMENT := Fld.ne O_s_Move_FIRST_CHILD O_s_Move_TO_DOCUMENT (by simp)
  have ne_s_Move_NEXT_SIBLING_s_Move_CONVERSE_FIRST_CHILD : s_Move_NEXT_SIBLING ≠ s_Move_CONVERSE_FIRST_CHILD := Fld.ne O_s_Move_NEXT_SIBLING O_s_Move_CONVERSE_FIRST_CHILD (by simp)
  have ne_s_Move_NEXT_SIBLING_s_Move_CONVERSE_NEXT_SIBLING : s_Move_NEXT_SIBLING ≠ s_Move_CONVERSE_NEXT_SIBLING := Fld.ne O_s_Move_NEXT_SIBLING O_s_Move_CONVERSE_NEXT_SIBLING (by simp)
  have ne_s_Move_NEXT_SIBLING_s_Move_TO_DOCUMENT : s_Move_NEXT_SIBLING ≠ s_Move_TO_DOCUMENT := Fld.ne O_s_Move_NEXT_SIBLING O_s_Move_TO_DOCUMENT (by simp)
  have ne_s_Move_CONVERSE_NEXT_SIBLING_s_Move_CONVERSE_FIRST_CHILD : s_Move_CONVERSE_NEXT_SIBLING ≠ s_Move_CONVERSE_FIRST_CHILD := Fld.ne O_s_Move_CONVERSE_NEXT_SIBLING O_s_Move_CONVERSE_FIRST_CHILD (by simp)
  have ne_s_Move_TO_DOCUMENT_s_Move_CONVERSE_FIRST_CHILD : s_Move_TO_DOCUMENT ≠ s_Move_CONVERSE_FIRST_CHILD := Fld.ne O_s_Move_TO_DOCUMENT O_s_Move_CONVERSE_FIRST_CHILD (by simp)
  have ne_s_Move_TO_DOCUMENT_s_Move_CONVERSE_NEXT_SIBLING : s_Move_TO_DOCUMENT ≠ s_Move_CONVERSE_NEXT_SIBLING := Fld.ne O_s_Move_TO_DOCUMENT O_s_Move_CONVERSE_NEXT_SIBLING (by simp)
  have ne_s_Move_FROM_DOCUMENT_s_Move_CONVERSE_FIRST_CHILD : s_Move_FROM_DOCUMENT ≠ s_Move_CONVERSE_FIRST_CHILD := Fld.ne O_s_Move_FROM_DOCUMENT O_s_Move_CONVERSE_FIRST_CHILD (by simp)
  have ne_s_Move_FROM_DOCUMENT_s_Move_CONVERSE_NEXT_SIBLING : s_Move_FROM_DOCUMENT ≠ s_Move_CONVERSE_NEXT_SIBLING := Fld.ne O_s_Move_FROM_DOCUMENT O_s_Move_CONVERSE_NEXT_SIBLING (by simp)
  have ne_s_Move_FROM_DOCUMENT_s_Move_TO_DOCUMENT : s_Move_FROM_DOCUMENT ≠ s_Move_TO_DOCUMENT := Fld.ne O_s_Move_FROM_DOCUMENT O_s_Move_TO_DOCUMENT (by simp)
  have S_all : Sta s s.heap "jdk/internal/util/Preconditions" "SIOOBE_FORMATTER" "Ljava/util/function/BiFunction;" fv := Sta.start ev_fm (Or.inl (hsets _ (List.mem_of_getElem? (i := 7) rfl)))
  rcases ref_cases hfm with rfl | ⟨fmt, rfl⟩
  · obtain ⟨n, o, h1, h2, h3, _, L, rfl, ⟨hv, N⟩, hq⟩ := rm0N l s _ hw tables_1 i0 cs s_Move_FIRST_CHILD s_Move_NEXT_SIBLING s_Move_CONVERSE_FIRST_CHILD s_Move_CONVERSE_NEXT_SIBLING s_Move_TO_DOCUMENT s_Move_FROM_DOCUMENT s_Modality_FIRST_CHILD t0 v0 kk0 s_Modality_NEXT_SIBLING t1 v1 kk1 s_Modality_CONVERSE_FIRST_CHILD t2 v2 kk2 s_Modality_CONVERSE_NEXT_SIBLING t3 v3 kk3 s.heap s.heap.size (Nat.le_refl _) S_cs S_all S_s_Move_FIRST_CHILD E_s_Move_FIRST_CHILD O_s_Move_FIRST_CHILD MO_0 S_s_Move_NEXT_SIBLING E_s_Move_NEXT_SIBLING O_s_Move_NEXT_SIBLING MO_1 S_s_Move_CONVERSE_FIRST_CHILD E_s_Move_CONVERSE_FIRST_CHILD O_s_Move_CONVERSE_FIRST_CHILD MO_2 S_s_Move_CONVERSE_NEXT_SIBLING E_s_Move_CONVERSE_NEXT_SIBLING O_s_Move_CONVERSE_NEXT_SIBLING MO_3 S_s_Move_TO_DOCUMENT E_s_Move_TO_DOCUMENT O_s_Move_TO_DOCUMENT MO_4 S_s_Move_FROM_DOCUMENT E_s_Move_FROM_DOCUMENT O_s_Move_FROM_DOCUMENT MO_5 E_s_Modality_FIRST_CHILD SP_0 ET_0 VA_0 CO_0 AV_0 E_s_Modality_NEXT_SIBLING SP_1 ET_1 VA_1 CO_1 AV_1 E_s_Modality_CONVERSE_FIRST_CHILD SP_2 ET_2 VA_2 CO_2 AV_2 E_s_Modality_CONVERSE_NEXT_SIBLING SP_3 ET_3 VA_3 CO_3 AV_3 ne_s_Move_FIRST_CHILD_s_Move_CONVERSE_FIRST_CHILD ne_s_Move_FIRST_CHILD_s_Move_CONVERSE_NEXT_SIBLING ne_s_Move_FIRST_CHILD_s_Move_TO_DOCUMENT ne_s_Move_NEXT_SIBLING_s_Move_CONVERSE_FIRST_CHILD ne_s_Move_NEXT_SIBLING_s_Move_CONVERSE_NEXT_SIBLING ne_s_Move_NEXT_SIBLING_s_Move_TO_DOCUMENT ne_s_Move_CONVERSE_NEXT_SIBLING_s_Move_CONVERSE_FIRST_CHILD ne_s_Move_TO_DOCUMENT_s_Move_CONVERSE_FIRST_CHILD ne_s_Move_TO_DOCUMENT_s_Move_CONVERSE_NEXT_SIBLING ne_s_Move_FROM_DOCUMENT_s_Move_CONVERSE_FIRST_CHILD ne_s_Move_FROM_DOCUMENT_s_Move_CONVERSE_NEXT_SIBLING ne_s_Move_FROM_DOCUMENT_s_Move_TO_DOCUMENT hcs p e ha hc hk s m _ below hf ((Spec.applies_iff_loose hf).mp happ).1 ⟨rfl, State.Warmed39.refl s, rfl⟩ trivial
    obtain rfl := hv
    refine ⟨n, _, h1, h2, h3, hpost _ _ _ _ _ _ ⟨Cond.after_iff.mpr rfl, Cond.after_iff.mpr (eq_i res_at (Term.int_eval (1)) rfl), trivial⟩ ⟨hq.1, hq.2.1, (hq.2.2.sift fun y hy => Or.inr (N y hy)).mono (by decide) (by decide)⟩⟩
  · obtain ⟨n, o, h1, h2, h3, _, L, rfl, ⟨hv, N⟩, hq⟩ := rm0 l s _ hw tables_1 i0 cs fmt s_Move_FIRST_CHILD s_Move_NEXT_SIBLING s_Move_CONVERSE_FIRST_CHILD s_Move_CONVERSE_NEXT_SIBLING s_Move_TO_DOCUMENT s_Move_FROM_DOCUMENT s_Modality_FIRST_CHILD t0 v0 kk0 s_Modality_NEXT_SIBLING t1 v1 kk1 s_Modality_CONVERSE_FIRST_CHILD t2 v2 kk2 s_Modality_CONVERSE_NEXT_SIBLING t3 v3 kk3 s.heap s.heap.size (Nat.le_refl _) S_cs S_all S_s_Move_FIRST_CHILD E_s_Move_FIRST_CHILD O_s_Move_FIRST_CHILD MO_0 S_s_Move_NEXT_SIBLING E_s_Move_NEXT_SIBLING O_s_Move_NEXT_SIBLING MO_1 S_s_Move_CONVERSE_FIRST_CHILD E_s_Move_CONVERSE_FIRST_CHILD O_s_Move_CONVERSE_FIRST_CHILD MO_2 S_s_Move_CONVERSE_NEXT_SIBLING E_s_Move_CONVERSE_NEXT_SIBLING O_s_Move_CONVERSE_NEXT_SIBLING MO_3 S_s_Move_TO_DOCUMENT E_s_Move_TO_DOCUMENT O_s_Move_TO_DOCUMENT MO_4 S_s_Move_FROM_DOCUMENT E_s_Move_FROM_DOCUMENT O_s_Move_FROM_DOCUMENT MO_5 E_s_Modality_FIRST_CHILD SP_0 ET_0 VA_0 CO_0 AV_0 E_s_Modality_NEXT_SIBLING SP_1 ET_1 VA_1 CO_1 AV_1 E_s_Modality_CONVERSE_FIRST_CHILD SP_2 ET_2 VA_2 CO_2 AV_2 E_s_Modality_CONVERSE_NEXT_SIBLING SP_3 ET_3 VA_3 CO_3 AV_3 ne_s_Move_FIRST_CHILD_s_Move_CONVERSE_FIRST_CHILD ne_s_Move_FIRST_CHILD_s_Move_CONVERSE_NEXT_SIBLING ne_s_Move_FIRST_CHILD_s_Move_TO_DOCUMENT ne_s_Move_NEXT_SIBLING_s_Move_CONVERSE_FIRST_CHILD ne_s_Move_NEXT_SIBLING_s_Move_CONVERSE_NEXT_SIBLING ne_s_Move_NEXT_SIBLING_s_Move_TO_DOCUMENT ne_s_Move_CONVERSE_NEXT_SIBLING_s_Move_CONVERSE_FIRST_CHILD ne_s_Move_TO_DOCUMENT_s_Move_CONVERSE_FIRST_CHILD ne_s_Move_TO_DOCUMENT_s_Move_CONVERSE_NEXT_SIBLING ne_s_Move_FROM_DOCUMENT_s_Move_CONVERSE_FIRST_CHILD ne_s_Move_FROM_DOCUMENT_s_Move_CONVERSE_NEXT_SIBLING ne_s_Move_FROM_DOCUMENT_s_Move_TO_DOCUMENT hcs p e ha hc hk s m _ below hf ((Spec.applies_iff_loose hf).mp happ).1 ⟨rfl, State.Warmed39.refl s, rfl⟩ trivial
    obtain rfl := hv
    refine ⟨n, _, h1, h2, h3, hpost _ _ _ _ _ _ ⟨Cond.after_iff.mpr rfl, Cond.after_iff.mpr (eq_i res_at (Term.int_eval (1)) rfl), trivial⟩ ⟨hq.1, hq.2.1, (hq.2.2.sift fun y hy => Or.inr (N y hy)).mono (by decide) (by decide)⟩⟩
theorem main_1_1 : Claimed_1_1 := comes_1 fun _ _ _ _ _ _ h hF => ⟨h.1, hF⟩
theorem main_1_2 : Claimed_1_2 := comes_1 fun _ _ _ _ _ _ h hF => ⟨h.2.1, hF⟩
end Jvm.Pilot.@@N@@
namespace Jvm.Pilot.@@N@@
open Jvm Jvm.ClassFile Sem Op Lib Jvm.Free Jvm.Stand Jvm.Pilot.@@N@@.Jvm.D
/-! MADE BY PROGRAM (witnessworld.py) out of the Statement's table words and the real class files: 19 classes; the members and pool entries that the words name. The judged class is class 1, her method 2. -/
namespace start1
open Jvm.ClassFile
def u (s : String) : CpInfo := .utf8 (stringToUtf16 s)
/-- a pool by its gaps: so many unusable entries, then the entry; so many at the end -/
def gap : Nat → List CpInfo → List CpInfo
  | 0, r => r
  | n + 1, r => .unusable :: gap n r
def poolList (es : List (Nat × CpInfo)) (last : Nat) : List CpInfo := es.foldr (fun e r => gap e.1 (e.2 :: r)) (gap last [])
def pool (es : List (Nat × CpInfo)) (last : Nat) : Array CpInfo := ⟨poolList es last⟩
def fileOf (pool : Array CpInfo) (this : Nat) (attrs : Array Attribute := #[]) (ms : Array MethodInfo := #[]) (fl : Nat := 33) (sup : Nat := 0) (ifs : Array Nat := #[]) (fds : Array FieldInfo := #[]) : ClassFile where
  minorVersion := 0
  majorVersion := 65
  constantPool := pool
  accessFlags := fl
  thisClass := this
  superClass := sup
  interfaces := ifs
  fields := fds
  methods := ms
  attributes := attrs
def plain (name : String) (sup : Option ClassId) : Class where
  name := name
  kind := .ordinary
  loader := none
  accessFlags := 33
  super := sup
  interfaces := #[]
  cf := none
  fields := #[]
  methods := #[]
  instanceTypes := #[]
  staticTypes := #[]
  resolved := #[]
  callSites := []
  init := .initialized
  statics := none
  mirror := none

def pool0 : Array CpInfo := pool [(5, u "<init>"), (0, u "()V"), (1, .class_ 10), (1, u "java/lang/Object")] 113

def k0m0 : Method := { name := "<init>", desc := "()V", sig := { parameters := [], returnType := none }, accessFlags := 1, code := none }
/-- java/lang/Object -/
def k0 : Class := { plain "java/lang/Object" none with
  accessFlags := 33
  interfaces := #[]
  cf := some (fileOf pool0 8 #[] #[{ accessFlags := 1, nameIndex := 5, descriptorIndex := 6, attributes := #[] }] 33 0 #[] #[])
  fields := #[]
  methods := #[k0m0]
  instanceTypes := #[]
  staticTypes := #[]
  resolved := Array.replicate 124 none
  statics := none }

def pool1 : Array CpInfo := pool [(2, .class_ 4), (1, u "java/lang/Object"), (0, u "<init>"), (0, u "()V"), (0, .fieldref 8 9), (0, .class_ 10), (0, .nameAndType 11 12), (0, u "com/example/decider/decider/library/xpath/Move"), (0, u "FIRST_CHILD"), (0, u "Lcom/example/decider/decider/library/xpath/Move;"), (0, .fieldref 8 14), (0, .nameAndType 15 12), (0, u "NEXT_SIBLING"), (0, .fieldref 8 17), (0, .nameAndType 18 12), (0, u "CONVERSE_FIRST_CHILD"), (0, .fieldref 8 20), (0, .nameAndType 21 12), (0, u "CONVERSE_NEXT_SIBLING"), (0, .fieldref 8 23), (0, .nameAndType 24 12), (0, u "TO_DOCUMENT"), (0, .fieldref 8 26), (0, .nameAndType 27 12), (0, u "FROM_DOCUMENT"), (0, .integer 2147483647), (0, .methodref 30 31), (0, .class_ 32), (0, .nameAndType 33 34), (0, u "com/example/decider/decider/library/xpath/MoveUpwardPinLaw"), (0, u "pick"), (0, u "(I)Lcom/example/decider/decider/library/xpath/Move;"), (0, .methodref 8 36), (0, .nameAndType 37 38), (0, u "upward"), (0, u "()Z"), (0, .methodref 8 40), (0, .nameAndType 41 42), (0, u "modality"), (0, u "()Lcom/example/decider/decider/logic/formula/Modality;"), (0, .methodref 44 45), (0, .class_ 46), (0, .nameAndType 47 48), (0, u "com/example/decider/decider/logic/formula/Modality"), (0, u "spelling"), (0, u "()Ljava/lang/String;"), (0, .methodref 50 51), (0, .class_ 52), (0, .nameAndType 53 54), (0, u "java/lang/String"), (0, u "length"), (0, u "()I"), (0, .methodref 50 56), (0, .nameAndType 57 58), (0, u "charAt"), (0, u "(I)C"), (0, .methodref 8 60), (0, .nameAndType 61 62), (0, u "inverse"), (0, u "()Lcom/example/decider/decider/library/xpath/Move;"), (3, u "law"), (0, u "(I)Z")] 2

def k1m0 : Method := { name := "<init>", desc := "()V", sig := { parameters := [], returnType := none }, accessFlags := 1, code := none }
def k1c1 : Code := { maxStack := 2, maxLocals := 1, code := method_2_code, exceptionTable := #[], attributes := #[] }
def k1m1 : Method := { name := "pick", desc := "(I)Lcom/example/decider/decider/library/xpath/Move;", sig := { parameters := [.int], returnType := some (.object "com/example/decider/decider/library/xpath/Move") }, accessFlags := 10, code := some k1c1 }
def k1c2 : Code := { maxStack := 2, maxLocals := 7, code := code, exceptionTable := #[], attributes := #[] }
def k1m2 : Method := { name := "law", desc := "(I)Z", sig := { parameters := [.int], returnType := some .boolean }, accessFlags := 9, code := some k1c2 }
/-- com/example/decider/decider/library/xpath/MoveUpwardPinLaw -/
def k1 : Class := { plain "com/example/decider/decider/library/xpath/MoveUpwardPinLaw" (some 0) with
  accessFlags := 49
  interfaces := #[]
  cf := some (fileOf pool1 30 #[] #[{ accessFlags := 1, nameIndex := 5, descriptorIndex := 6, attributes := #[] }, { accessFlags := 10, nameIndex := 33, descriptorIndex := 34, attributes := #[] }, { accessFlags := 9, nameIndex := 66, descriptorIndex := 67, attributes := #[] }] 49 2 #[] #[])
  fields := #[]
  methods := #[k1m0, k1m1, k1m2]
  instanceTypes := #[]
  staticTypes := #[]
  resolved := Array.replicate 70 none
  statics := none }

def pool2 : Array CpInfo := pool [(1, .class_ 2), (0, u "java/lang/constant/Constable"), (0, .class_ 4), (0, u "java/lang/Object")] 6

/-- java/lang/constant/Constable -/
def k2 : Class := { plain "java/lang/constant/Constable" (some 0) with
  accessFlags := 1537
  interfaces := #[]
  cf := some (fileOf pool2 1 #[] #[] 1537 3 #[] #[])
  fields := #[]
  methods := #[]
  instanceTypes := #[]
  staticTypes := #[]
  resolved := Array.replicate 11 none
  statics := none }

def pool3 : Array CpInfo := pool [(1, .class_ 2), (0, u "java/lang/Comparable"), (0, .class_ 4), (0, u "java/lang/Object")] 7

/-- java/lang/Comparable -/
def k3 : Class := { plain "java/lang/Comparable" (some 0) with
  accessFlags := 1537
  interfaces := #[]
  cf := some (fileOf pool3 1 #[] #[] 1537 3 #[] #[])
  fields := #[]
  methods := #[]
  instanceTypes := #[]
  staticTypes := #[]
  resolved := Array.replicate 12 none
  statics := none }

def pool4 : Array CpInfo := pool [(1, .class_ 2), (0, u "java/io/Serializable"), (0, .class_ 4), (0, u "java/lang/Object")] 2

/-- java/io/Serializable -/
def k4 : Class := { plain "java/io/Serializable" (some 0) with
  accessFlags := 1537
  interfaces := #[]
  cf := some (fileOf pool4 1 #[] #[] 1537 3 #[] #[])
  fields := #[]
  methods := #[]
  instanceTypes := #[]
  staticTypes := #[]
  resolved := Array.replicate 7 none
  statics := none }

def pool5 : Array CpInfo := pool [(2, .class_ 4), (1, u "java/lang/Enum"), (0, u "name"), (0, u "Ljava/lang/String;"), (0, .fieldref 2 8), (0, .nameAndType 9 10), (0, u "ordinal"), (0, u "I"), (1, .class_ 14), (1, u "java/lang/Object"), (4, u "hash"), (86, .class_ 108), (1, u "java/lang/Enum$EnumDesc"), (2, .class_ 112), (0, u "java/lang/constant/Constable"), (0, .class_ 114), (0, u "java/lang/Comparable"), (0, .class_ 116), (0, u "java/io/Serializable"), (9, u "()I")] 77

def k5c0 : Code := { maxStack := 1, maxLocals := 1, code := jdk_37_method_2_code, exceptionTable := #[], attributes := #[] }
def k5m0 : Method := { name := "ordinal", desc := "()I", sig := { parameters := [], returnType := some .int }, accessFlags := 17, code := some k5c0 }
/-- java/lang/Enum -/
def k5 : Class := { plain "java/lang/Enum" (some 0) with
  accessFlags := 1057
  interfaces := #[2, 3, 4]
  cf := some (fileOf pool5 2 #[.nestMembers #[106]] #[{ accessFlags := 17, nameIndex := 9, descriptorIndex := 126, attributes := #[] }] 1057 12 #[111, 113, 115] #[{ accessFlags := 18, nameIndex := 5, descriptorIndex := 6, attributes := #[] }, { accessFlags := 18, nameIndex := 9, descriptorIndex := 10, attributes := #[] }, { accessFlags := 2, nameIndex := 19, descriptorIndex := 10, attributes := #[] }])
  fields := #[{ name := "name", type := (.object "java/lang/String"), accessFlags := 18, slot := 0, constantValue := 0 }, { name := "ordinal", type := .int, accessFlags := 18, slot := 1, constantValue := 0 }, { name := "hash", type := .int, accessFlags := 2, slot := 2, constantValue := 0 }]
  methods := #[k5m0]
  instanceTypes := #[(.object "java/lang/String"), .int, .int]
  staticTypes := #[]
  resolved := Array.replicate 204 none
  statics := none }

def pool6 : Array CpInfo := pool [(1, .class_ 2), (0, u "com/example/decider/decider/library/xpath/Move"), (0, .fieldref 1 4), (0, .nameAndType 5 6), (0, u "FIRST_CHILD"), (0, u "Lcom/example/decider/decider/library/xpath/Move;"), (0, .fieldref 1 8), (0, .nameAndType 9 6), (0, u "NEXT_SIBLING"), (0, .fieldref 1 11), (0, .nameAndType 12 6), (0, u "CONVERSE_FIRST_CHILD"), (0, .fieldref 1 14), (0, .nameAndType 15 6), (0, u "CONVERSE_NEXT_SIBLING"), (0, .fieldref 1 17), (0, .nameAndType 18 6), (0, u "TO_DOCUMENT"), (0, .fieldref 1 20), (0, .nameAndType 21 6), (0, u "FROM_DOCUMENT"), (2, u "$VALUES"), (0, u "[Lcom/example/decider/decider/library/xpath/Move;"), (6, .class_ 34), (1, u "java/lang/Enum"), (6, .fieldref 1 42), (0, .nameAndType 43 44), (0, u "modality"), (0, u "Lcom/example/decider/decider/logic/formula/Modality;"), (0, .methodref 1 46), (0, .nameAndType 47 48), (0, u "ordinal"), (0, u "()I"), (35, u "()Lcom/example/decider/decider/logic/formula/Modality;"), (0, u "inverse"), (0, u "()Lcom/example/decider/decider/library/xpath/Move;"), (1, u "upward"), (0, u "()Z")] 5

def k6c0 : Code := { maxStack := 1, maxLocals := 1, code := prog_85_method_4_code, exceptionTable := #[], attributes := #[] }
def k6m0 : Method := { name := "modality", desc := "()Lcom/example/decider/decider/logic/formula/Modality;", sig := { parameters := [], returnType := some (.object "com/example/decider/decider/logic/formula/Modality") }, accessFlags := 0, code := some k6c0 }
def k6c1 : Code := { maxStack := 4, maxLocals := 1, code := prog_85_method_5_code, exceptionTable := #[], attributes := #[] }
def k6m1 : Method := { name := "inverse", desc := "()Lcom/example/decider/decider/library/xpath/Move;", sig := { parameters := [], returnType := some (.object "com/example/decider/decider/library/xpath/Move") }, accessFlags := 0, code := some k6c1 }
def k6c2 : Code := { maxStack := 2, maxLocals := 1, code := prog_85_method_6_code, exceptionTable := #[], attributes := #[] }
def k6m2 : Method := { name := "upward", desc := "()Z", sig := { parameters := [], returnType := some .boolean }, accessFlags := 0, code := some k6c2 }
/-- com/example/decider/decider/library/xpath/Move -/
def k6 : Class := { plain "com/example/decider/decider/library/xpath/Move" (some 5) with
  accessFlags := 16432
  interfaces := #[]
  cf := some (fileOf pool6 1 #[] #[{ accessFlags := 0, nameIndex := 43, descriptorIndex := 84, attributes := #[] }, { accessFlags := 0, nameIndex := 85, descriptorIndex := 86, attributes := #[] }, { accessFlags := 0, nameIndex := 88, descriptorIndex := 89, attributes := #[] }] 16432 32 #[] #[{ accessFlags := 16409, nameIndex := 5, descriptorIndex := 6, attributes := #[] }, { accessFlags := 16409, nameIndex := 9, descriptorIndex := 6, attributes := #[] }, { accessFlags := 16409, nameIndex := 12, descriptorIndex := 6, attributes := #[] }, { accessFlags := 16409, nameIndex := 15, descriptorIndex := 6, attributes := #[] }, { accessFlags := 16409, nameIndex := 18, descriptorIndex := 6, attributes := #[] }, { accessFlags := 16409, nameIndex := 21, descriptorIndex := 6, attributes := #[] }, { accessFlags := 18, nameIndex := 43, descriptorIndex := 44, attributes := #[] }, { accessFlags := 4122, nameIndex := 24, descriptorIndex := 25, attributes := #[] }])
  fields := #[{ name := "FIRST_CHILD", type := (.object "com/example/decider/decider/library/xpath/Move"), accessFlags := 16409, slot := 0, constantValue := 0 }, { name := "NEXT_SIBLING", type := (.object "com/example/decider/decider/library/xpath/Move"), accessFlags := 16409, slot := 1, constantValue := 0 }, { name := "CONVERSE_FIRST_CHILD", type := (.object "com/example/decider/decider/library/xpath/Move"), accessFlags := 16409, slot := 2, constantValue := 0 }, { name := "CONVERSE_NEXT_SIBLING", type := (.object "com/example/decider/decider/library/xpath/Move"), accessFlags := 16409, slot := 3, constantValue := 0 }, { name := "TO_DOCUMENT", type := (.object "com/example/decider/decider/library/xpath/Move"), accessFlags := 16409, slot := 4, constantValue := 0 }, { name := "FROM_DOCUMENT", type := (.object "com/example/decider/decider/library/xpath/Move"), accessFlags := 16409, slot := 5, constantValue := 0 }, { name := "modality", type := (.object "com/example/decider/decider/logic/formula/Modality"), accessFlags := 18, slot := 3, constantValue := 0 }, { name := "$VALUES", type := (.array (.object "com/example/decider/decider/library/xpath/Move")), accessFlags := 4122, slot := 6, constantValue := 0 }]
  methods := #[k6m0, k6m1, k6m2]
  instanceTypes := #[(.object "java/lang/String"), .int, .int, (.object "com/example/decider/decider/logic/formula/Modality")]
  staticTypes := #[(.object "com/example/decider/decider/library/xpath/Move"), (.object "com/example/decider/decider/library/xpath/Move"), (.object "com/example/decider/decider/library/xpath/Move"), (.object "com/example/decider/decider/library/xpath/Move"), (.object "com/example/decider/decider/library/xpath/Move"), (.object "com/example/decider/decider/library/xpath/Move"), (.array (.object "com/example/decider/decider/library/xpath/Move"))]
  resolved := Array.replicate 95 none
  statics := some 0 }

def pool7 : Array CpInfo := pool [(1, .class_ 2), (0, u "com/example/decider/decider/logic/formula/Modality"), (2, u "FIRST_CHILD"), (0, u "Lcom/example/decider/decider/logic/formula/Modality;"), (2, u "NEXT_SIBLING"), (2, u "CONVERSE_FIRST_CHILD"), (2, u "CONVERSE_NEXT_SIBLING"), (2, u "$VALUES"), (0, u "[Lcom/example/decider/decider/logic/formula/Modality;"), (6, .class_ 28), (1, u "java/lang/Enum"), (6, .fieldref 1 36), (0, .nameAndType 37 38), (0, u "spelling"), (0, u "Ljava/lang/String;"), (33, u "()Ljava/lang/String;")] 5

def k7c0 : Code := { maxStack := 1, maxLocals := 1, code := prog_138_method_5_code, exceptionTable := #[], attributes := #[] }
def k7m0 : Method := { name := "spelling", desc := "()Ljava/lang/String;", sig := { parameters := [], returnType := some (.object "java/lang/String") }, accessFlags := 1, code := some k7c0 }
/-- com/example/decider/decider/logic/formula/Modality -/
def k7 : Class := { plain "com/example/decider/decider/logic/formula/Modality" (some 5) with
  accessFlags := 16433
  interfaces := #[]
  cf := some (fileOf pool7 1 #[] #[{ accessFlags := 1, nameIndex := 37, descriptorIndex := 72, attributes := #[] }] 16433 26 #[] #[{ accessFlags := 16409, nameIndex := 5, descriptorIndex := 6, attributes := #[] }, { accessFlags := 16409, nameIndex := 9, descriptorIndex := 6, attributes := #[] }, { accessFlags := 16409, nameIndex := 12, descriptorIndex := 6, attributes := #[] }, { accessFlags := 16409, nameIndex := 15, descriptorIndex := 6, attributes := #[] }, { accessFlags := 18, nameIndex := 37, descriptorIndex := 38, attributes := #[] }, { accessFlags := 4122, nameIndex := 18, descriptorIndex := 19, attributes := #[] }])
  fields := #[{ name := "FIRST_CHILD", type := (.object "com/example/decider/decider/logic/formula/Modality"), accessFlags := 16409, slot := 0, constantValue := 0 }, { name := "NEXT_SIBLING", type := (.object "com/example/decider/decider/logic/formula/Modality"), accessFlags := 16409, slot := 1, constantValue := 0 }, { name := "CONVERSE_FIRST_CHILD", type := (.object "com/example/decider/decider/logic/formula/Modality"), accessFlags := 16409, slot := 2, constantValue := 0 }, { name := "CONVERSE_NEXT_SIBLING", type := (.object "com/example/decider/decider/logic/formula/Modality"), accessFlags := 16409, slot := 3, constantValue := 0 }, { name := "spelling", type := (.object "java/lang/String"), accessFlags := 18, slot := 3, constantValue := 0 }, { name := "$VALUES", type := (.array (.object "com/example/decider/decider/logic/formula/Modality")), accessFlags := 4122, slot := 4, constantValue := 0 }]
  methods := #[k7m0]
  instanceTypes := #[(.object "java/lang/String"), .int, .int, (.object "java/lang/String")]
  staticTypes := #[(.object "com/example/decider/decider/logic/formula/Modality"), (.object "com/example/decider/decider/logic/formula/Modality"), (.object "com/example/decider/decider/logic/formula/Modality"), (.object "com/example/decider/decider/logic/formula/Modality"), (.array (.object "com/example/decider/decider/logic/formula/Modality"))]
  resolved := Array.replicate 78 none
  statics := some 1 }

def pool8 : Array CpInfo := pool [(2, .class_ 4), (1, u "java/lang/CharSequence"), (42, .class_ 48), (0, u "java/lang/CharSequence$1CodePointIterator"), (10, .class_ 60), (0, u "java/lang/CharSequence$1CharIterator"), (5, .class_ 67), (0, u "java/lang/Object")] 63

/-- java/lang/CharSequence -/
def k8 : Class := { plain "java/lang/CharSequence" (some 0) with
  accessFlags := 1537
  interfaces := #[]
  cf := some (fileOf pool8 2 #[.nestMembers #[47, 59]] #[] 1537 66 #[] #[])
  fields := #[]
  methods := #[]
  instanceTypes := #[]
  staticTypes := #[]
  resolved := Array.replicate 131 none
  statics := none }

def pool9 : Array CpInfo := pool [(1, .class_ 2), (0, u "java/lang/constant/ConstantDesc"), (0, .class_ 4), (0, u "java/lang/Object")] 32

/-- java/lang/constant/ConstantDesc -/
def k9 : Class := { plain "java/lang/constant/ConstantDesc" (some 0) with
  accessFlags := 1537
  interfaces := #[]
  cf := some (fileOf pool9 1 #[] #[] 1537 3 #[] #[])
  fields := #[]
  methods := #[]
  instanceTypes := #[]
  staticTypes := #[]
  resolved := Array.replicate 37 none
  statics := none }

def pool10 : Array CpInfo := pool [(2, .class_ 4), (1, u "java/lang/Object"), (0, u "<init>"), (0, u "()V"), (2, .fieldref 10 11), (0, .class_ 12), (0, .nameAndType 13 14), (0, u "java/lang/String"), (0, u "value"), (0, u "[B"), (0, .fieldref 10 16), (0, .nameAndType 17 18), (0, u "coder"), (0, u "B"), (2, u "hash"), (0, u "I"), (2, u "hashIsZero"), (0, u "Z"), (11, .fieldref 10 39), (0, .nameAndType 40 26), (0, u "COMPACT_STRINGS"), (66, .class_ 109), (1, u "java/lang/StringLatin1"), (32, u "()Z"), (191, u "()I"), (0, .methodref 10 336), (0, .nameAndType 17 337), (0, u "()B"), (25, u "([BI)C"), (27, u "(II)V"), (35, u "(I)C"), (64, .methodref 10 493), (0, .nameAndType 494 142), (0, u "isLatin1"), (0, .methodref 107 496), (0, .nameAndType 497 363), (0, u "charAt"), (3, u "checkIndex"), (5, u "length"), (67, .class_ 576), (0, u "java/lang/CharSequence"), (22, u "CASE_INSENSITIVE_ORDER"), (0, u "Ljava/util/Comparator;"), (452, .fieldref 1054 1055), (0, .class_ 1056), (0, .nameAndType 1057 1058), (0, u "jdk/internal/util/Preconditions"), (0, u "SIOOBE_FORMATTER"), (0, u "Ljava/util/function/BiFunction;"), (0, .methodref 1054 1060), (0, .nameAndType 501 1061), (0, u "(IILjava/util/function/BiFunction;)I"), (39, u "serialPersistentFields"), (0, u "[Ljava/io/ObjectStreamField;"), (0, .class_ 1104), (0, u "java/lang/String$CaseInsensitiveComparator"), (1, .class_ 1107), (0, u "java/io/Serializable"), (0, .class_ 1109), (0, u "java/lang/Comparable"), (0, .class_ 1111), (0, u "java/lang/constant/Constable"), (0, .class_ 1113), (0, u "java/lang/constant/ConstantDesc"), (2, u "serialVersionUID"), (0, u "J"), (3, u "REPL"), (0, u "C"), (2, u "LATIN1"), (1, u "UTF16")] 323

def k10m0 : Method := { name := "<init>", desc := "()V", sig := { parameters := [], returnType := none }, accessFlags := 1, code := none }
def k10c1 : Code := { maxStack := 2, maxLocals := 1, code := jdk_42_method_54_code, exceptionTable := #[], attributes := #[] }
def k10m1 : Method := { name := "length", desc := "()I", sig := { parameters := [], returnType := some .int }, accessFlags := 1, code := some k10c1 }
def k10c2 : Code := { maxStack := 2, maxLocals := 2, code := jdk_42_method_56_code, exceptionTable := #[], attributes := #[] }
def k10m2 : Method := { name := "charAt", desc := "(I)C", sig := { parameters := [.int], returnType := some .char }, accessFlags := 1, code := some k10c2 }
def k10c3 : Code := { maxStack := 1, maxLocals := 1, code := jdk_42_method_152_code, exceptionTable := #[], attributes := #[] }
def k10m3 : Method := { name := "coder", desc := "()B", sig := { parameters := [], returnType := some .byte }, accessFlags := 0, code := some k10c3 }
def k10c4 : Code := { maxStack := 1, maxLocals := 1, code := jdk_42_method_154_code, exceptionTable := #[], attributes := #[] }
def k10m4 : Method := { name := "isLatin1", desc := "()Z", sig := { parameters := [], returnType := some .boolean }, accessFlags := 0, code := some k10c4 }
def k10c5 : Code := { maxStack := 3, maxLocals := 2, code := jdk_42_method_155_code, exceptionTable := #[], attributes := #[] }
def k10m5 : Method := { name := "checkIndex", desc := "(II)V", sig := { parameters := [.int, .int], returnType := none }, accessFlags := 8, code := some k10c5 }
/-- java/lang/String -/
def k10 : Class := { plain "java/lang/String" (some 0) with
  accessFlags := 49
  interfaces := #[4, 3, 8, 2, 9]
  cf := some (fileOf pool10 10 #[.nestMembers #[1103]] #[{ accessFlags := 1, nameIndex := 5, descriptorIndex := 6, attributes := #[] }, { accessFlags := 1, nameIndex := 507, descriptorIndex := 334, attributes := #[] }, { accessFlags := 1, nameIndex := 497, descriptorIndex := 427, attributes := #[] }, { accessFlags := 0, nameIndex := 17, descriptorIndex := 337, attributes := #[] }, { accessFlags := 0, nameIndex := 494, descriptorIndex := 142, attributes := #[] }, { accessFlags := 8, nameIndex := 501, descriptorIndex := 391, attributes := #[] }] 49 2 #[1106, 1108, 575, 1110, 1112] #[{ accessFlags := 18, nameIndex := 13, descriptorIndex := 14, attributes := #[] }, { accessFlags := 18, nameIndex := 17, descriptorIndex := 18, attributes := #[] }, { accessFlags := 2, nameIndex := 21, descriptorIndex := 22, attributes := #[] }, { accessFlags := 2, nameIndex := 25, descriptorIndex := 26, attributes := #[] }, { accessFlags := 26, nameIndex := 1116, descriptorIndex := 1117, attributes := #[] }, { accessFlags := 24, nameIndex := 40, descriptorIndex := 26, attributes := #[] }, { accessFlags := 26, nameIndex := 1101, descriptorIndex := 1102, attributes := #[] }, { accessFlags := 26, nameIndex := 1121, descriptorIndex := 1122, attributes := #[] }, { accessFlags := 25, nameIndex := 599, descriptorIndex := 600, attributes := #[] }, { accessFlags := 24, nameIndex := 1125, descriptorIndex := 18, attributes := #[] }, { accessFlags := 24, nameIndex := 1127, descriptorIndex := 18, attributes := #[] }])
  fields := #[{ name := "value", type := (.array .byte), accessFlags := 18, slot := 0, constantValue := 0 }, { name := "coder", type := .byte, accessFlags := 18, slot := 1, constantValue := 0 }, { name := "hash", type := .int, accessFlags := 2, slot := 2, constantValue := 0 }, { name := "hashIsZero", type := .boolean, accessFlags := 2, slot := 3, constantValue := 0 }, { name := "serialVersionUID", type := .long, accessFlags := 26, slot := 0, constantValue := 0 }, { name := "COMPACT_STRINGS", type := .boolean, accessFlags := 24, slot := 1, constantValue := 0 }, { name := "serialPersistentFields", type := (.array (.object "java/io/ObjectStreamField")), accessFlags := 26, slot := 2, constantValue := 0 }, { name := "REPL", type := .char, accessFlags := 26, slot := 3, constantValue := 0 }, { name := "CASE_INSENSITIVE_ORDER", type := (.object "java/util/Comparator"), accessFlags := 25, slot := 4, constantValue := 0 }, { name := "LATIN1", type := .byte, accessFlags := 24, slot := 5, constantValue := 0 }, { name := "UTF16", type := .byte, accessFlags := 24, slot := 6, constantValue := 0 }]
  methods := #[k10m0, k10m1, k10m2, k10m3, k10m4, k10m5]
  instanceTypes := #[(.array .byte), .byte, .int, .boolean]
  staticTypes := #[.long, .boolean, (.array (.object "java/io/ObjectStreamField")), .char, (.object "java/util/Comparator"), .byte, .byte]
  resolved := Array.replicate 1451 none
  statics := some 2 }

def pool11 : Array CpInfo := pool [(1, .class_ 2), (0, u "java/lang/String"), (1, .class_ 6), (1, u "java/lang/Object"), (0, u "<init>"), (0, u "()V"), (0, .methodref 1 10), (0, .nameAndType 11 12), (0, u "checkIndex"), (0, u "(II)V"), (1, .class_ 16), (1, u "java/lang/StringLatin1"), (36, u "([BI)C"), (67, u "$assertionsDisabled"), (0, u "Z"), (98, .class_ 223), (1, u "java/lang/StringLatin1$LinesSpliterator"), (28, u "charAt"), (137, .class_ 391), (0, u "java/lang/StringLatin1$CharsSpliterator")] 3

def k11m0 : Method := { name := "<init>", desc := "()V", sig := { parameters := [], returnType := none }, accessFlags := 0, code := none }
def k11c1 : Code := { maxStack := 2, maxLocals := 2, code := jdk_43_method_2_code, exceptionTable := #[], attributes := #[] }
def k11m1 : Method := { name := "charAt", desc := "([BI)C", sig := { parameters := [(.array .byte), .int], returnType := some .char }, accessFlags := 9, code := some k11c1 }
/-- java/lang/StringLatin1 -/
def k11 : Class := { plain "java/lang/StringLatin1" (some 0) with
  accessFlags := 48
  interfaces := #[]
  cf := some (fileOf pool11 14 #[.nestMembers #[390, 221]] #[{ accessFlags := 0, nameIndex := 7, descriptorIndex := 8, attributes := #[] }, { accessFlags := 9, nameIndex := 252, descriptorIndex := 53, attributes := #[] }] 48 4 #[] #[{ accessFlags := 4120, nameIndex := 121, descriptorIndex := 122, attributes := #[] }])
  fields := #[{ name := "$assertionsDisabled", type := .boolean, accessFlags := 4120, slot := 0, constantValue := 0 }]
  methods := #[k11m0, k11m1]
  instanceTypes := #[]
  staticTypes := #[.boolean]
  resolved := Array.replicate 395 none
  statics := none }

def pool12 : Array CpInfo := pool [(2, .class_ 4), (1, u "java/lang/Object"), (0, u "<init>"), (0, u "()V"), (17, .class_ 26), (1, u "jdk/internal/util/Preconditions"), (6, u "checkIndex"), (21, .class_ 56), (0, u "jdk/internal/util/Preconditions$4"), (57, .class_ 115), (0, u "jdk/internal/util/Preconditions$1"), (7, u "SIOOBE_FORMATTER"), (0, u "Ljava/util/function/BiFunction;"), (0, .class_ 126), (0, u "jdk/internal/util/Preconditions$2"), (3, u "AIOOBE_FORMATTER"), (0, .class_ 132), (0, u "jdk/internal/util/Preconditions$3"), (3, u "IOOBE_FORMATTER"), (41, u "(IILjava/util/function/BiFunction;)I")] 15

def k12m0 : Method := { name := "<init>", desc := "()V", sig := { parameters := [], returnType := none }, accessFlags := 1, code := none }
def k12c1 : Code := { maxStack := 3, maxLocals := 3, code := jdk_41_method_11_code, exceptionTable := #[], attributes := #[] }
def k12m1 : Method := { name := "checkIndex", desc := "(IILjava/util/function/BiFunction;)I", sig := { parameters := [.int, .int, (.object "java/util/function/BiFunction")], returnType := some .int }, accessFlags := 9, code := some k12c1 }
/-- jdk/internal/util/Preconditions -/
def k12 : Class := { plain "jdk/internal/util/Preconditions" (some 0) with
  accessFlags := 33
  interfaces := #[]
  cf := some (fileOf pool12 24 #[.nestMembers #[55, 131, 125, 114]] #[{ accessFlags := 1, nameIndex := 5, descriptorIndex := 6, attributes := #[] }, { accessFlags := 9, nameIndex := 33, descriptorIndex := 178, attributes := #[] }] 33 2 #[] #[{ accessFlags := 25, nameIndex := 123, descriptorIndex := 124, attributes := #[] }, { accessFlags := 25, nameIndex := 130, descriptorIndex := 124, attributes := #[] }, { accessFlags := 25, nameIndex := 136, descriptorIndex := 124, attributes := #[] }])
  fields := #[{ name := "SIOOBE_FORMATTER", type := (.object "java/util/function/BiFunction"), accessFlags := 25, slot := 0, constantValue := 0 }, { name := "AIOOBE_FORMATTER", type := (.object "java/util/function/BiFunction"), accessFlags := 25, slot := 1, constantValue := 0 }, { name := "IOOBE_FORMATTER", type := (.object "java/util/function/BiFunction"), accessFlags := 25, slot := 2, constantValue := 0 }]
  methods := #[k12m0, k12m1]
  instanceTypes := #[]
  staticTypes := #[(.object "java/util/function/BiFunction"), (.object "java/util/function/BiFunction"), (.object "java/util/function/BiFunction")]
  resolved := Array.replicate 194 none
  statics := some 3 }

def pool13 : Array CpInfo := pool [(9, u "<init>"), (6, .class_ 18), (1, u "java/lang/Object"), (0, u "()V"), (1, .class_ 23), (1, u "jdk/internal/util/ArraysSupport"), (0, u "LOG2_ARRAY_LONG_INDEX_SCALE"), (0, u "I"), (2, u "U"), (0, u "Ljdk/internal/misc/Unsafe;"), (8, u "BIG_ENDIAN"), (0, u "Z"), (8, u "LOG2_BYTE_BIT_SIZE"), (4, u "LOG2_ARRAY_INT_INDEX_SCALE"), (54, u "JLA"), (0, u "Ljdk/internal/access/JavaLangAccess;"), (11, u "LOG2_ARRAY_BOOLEAN_INDEX_SCALE"), (9, u "LOG2_ARRAY_BYTE_INDEX_SCALE"), (5, u "LOG2_ARRAY_CHAR_INDEX_SCALE"), (5, u "LOG2_ARRAY_SHORT_INDEX_SCALE"), (18, u "LOG2_ARRAY_FLOAT_INDEX_SCALE"), (24, u "LOG2_ARRAY_DOUBLE_INDEX_SCALE"), (89, u "T_BOOLEAN"), (2, u "T_CHAR"), (1, u "T_FLOAT"), (1, u "T_DOUBLE"), (1, u "T_BYTE"), (1, u "T_SHORT"), (1, u "T_INT"), (1, u "T_LONG"), (1, u "SOFT_MAX_ARRAY_LENGTH")] 83

def k13m0 : Method := { name := "<init>", desc := "()V", sig := { parameters := [], returnType := none }, accessFlags := 2, code := none }
/-- jdk/internal/util/ArraysSupport -/
def k13 : Class := { plain "jdk/internal/util/ArraysSupport" (some 0) with
  accessFlags := 33
  interfaces := #[]
  cf := some (fileOf pool13 21 #[] #[{ accessFlags := 2, nameIndex := 9, descriptorIndex := 19, attributes := #[] }] 33 16 #[] #[{ accessFlags := 24, nameIndex := 28, descriptorIndex := 29, attributes := #[] }, { accessFlags := 26, nameIndex := 38, descriptorIndex := 39, attributes := #[] }, { accessFlags := 25, nameIndex := 121, descriptorIndex := 25, attributes := #[] }, { accessFlags := 25, nameIndex := 131, descriptorIndex := 25, attributes := #[] }, { accessFlags := 25, nameIndex := 137, descriptorIndex := 25, attributes := #[] }, { accessFlags := 25, nameIndex := 143, descriptorIndex := 25, attributes := #[] }, { accessFlags := 25, nameIndex := 53, descriptorIndex := 25, attributes := #[] }, { accessFlags := 25, nameIndex := 24, descriptorIndex := 25, attributes := #[] }, { accessFlags := 25, nameIndex := 162, descriptorIndex := 25, attributes := #[] }, { accessFlags := 25, nameIndex := 187, descriptorIndex := 25, attributes := #[] }, { accessFlags := 26, nameIndex := 48, descriptorIndex := 25, attributes := #[] }, { accessFlags := 25, nameIndex := 277, descriptorIndex := 25, attributes := #[] }, { accessFlags := 25, nameIndex := 280, descriptorIndex := 25, attributes := #[] }, { accessFlags := 25, nameIndex := 282, descriptorIndex := 25, attributes := #[] }, { accessFlags := 25, nameIndex := 284, descriptorIndex := 25, attributes := #[] }, { accessFlags := 25, nameIndex := 286, descriptorIndex := 25, attributes := #[] }, { accessFlags := 25, nameIndex := 288, descriptorIndex := 25, attributes := #[] }, { accessFlags := 25, nameIndex := 290, descriptorIndex := 25, attributes := #[] }, { accessFlags := 25, nameIndex := 292, descriptorIndex := 25, attributes := #[] }, { accessFlags := 26, nameIndex := 108, descriptorIndex := 109, attributes := #[] }, { accessFlags := 25, nameIndex := 294, descriptorIndex := 25, attributes := #[] }])
  fields := #[{ name := "U", type := (.object "jdk/internal/misc/Unsafe"), accessFlags := 24, slot := 0, constantValue := 0 }, { name := "BIG_ENDIAN", type := .boolean, accessFlags := 26, slot := 1, constantValue := 0 }, { name := "LOG2_ARRAY_BOOLEAN_INDEX_SCALE", type := .int, accessFlags := 25, slot := 2, constantValue := 0 }, { name := "LOG2_ARRAY_BYTE_INDEX_SCALE", type := .int, accessFlags := 25, slot := 3, constantValue := 0 }, { name := "LOG2_ARRAY_CHAR_INDEX_SCALE", type := .int, accessFlags := 25, slot := 4, constantValue := 0 }, { name := "LOG2_ARRAY_SHORT_INDEX_SCALE", type := .int, accessFlags := 25, slot := 5, constantValue := 0 }, { name := "LOG2_ARRAY_INT_INDEX_SCALE", type := .int, accessFlags := 25, slot := 6, constantValue := 0 }, { name := "LOG2_ARRAY_LONG_INDEX_SCALE", type := .int, accessFlags := 25, slot := 7, constantValue := 0 }, { name := "LOG2_ARRAY_FLOAT_INDEX_SCALE", type := .int, accessFlags := 25, slot := 8, constantValue := 0 }, { name := "LOG2_ARRAY_DOUBLE_INDEX_SCALE", type := .int, accessFlags := 25, slot := 9, constantValue := 0 }, { name := "LOG2_BYTE_BIT_SIZE", type := .int, accessFlags := 26, slot := 10, constantValue := 0 }, { name := "T_BOOLEAN", type := .int, accessFlags := 25, slot := 11, constantValue := 0 }, { name := "T_CHAR", type := .int, accessFlags := 25, slot := 12, constantValue := 0 }, { name := "T_FLOAT", type := .int, accessFlags := 25, slot := 13, constantValue := 0 }, { name := "T_DOUBLE", type := .int, accessFlags := 25, slot := 14, constantValue := 0 }, { name := "T_BYTE", type := .int, accessFlags := 25, slot := 15, constantValue := 0 }, { name := "T_SHORT", type := .int, accessFlags := 25, slot := 16, constantValue := 0 }, { name := "T_INT", type := .int, accessFlags := 25, slot := 17, constantValue := 0 }, { name := "T_LONG", type := .int, accessFlags := 25, slot := 18, constantValue := 0 }, { name := "JLA", type := (.object "jdk/internal/access/JavaLangAccess"), accessFlags := 26, slot := 19, constantValue := 0 }, { name := "SOFT_MAX_ARRAY_LENGTH", type := .int, accessFlags := 25, slot := 20, constantValue := 0 }]
  methods := #[k13m0]
  instanceTypes := #[]
  staticTypes := #[(.object "jdk/internal/misc/Unsafe"), .boolean, .int, .int, .int, .int, .int, .int, .int, .int, .int, .int, .int, .int, .int, .int, .int, .int, .int, (.object "jdk/internal/access/JavaLangAccess"), .int]
  resolved := Array.replicate 378 none
  statics := none }

def pool14 : Array CpInfo := pool [(1, u "java/lang/Cloneable"), (0, .class_ 1), (0, u "java/lang/Object"), (0, .class_ 3)] 3

/-- java/lang/Cloneable -/
def k14 : Class := { plain "java/lang/Cloneable" (some 0) with
  accessFlags := 1537
  interfaces := #[]
  cf := some (fileOf pool14 2 #[] #[] 1537 4 #[] #[])
  fields := #[]
  methods := #[]
  instanceTypes := #[]
  staticTypes := #[]
  resolved := Array.replicate 8 none
  statics := none }

/-- the primitive byte -/
def k15 : Class := { plain "byte" none with kind := .primitive 'B', accessFlags := 0x411 }
/-- [B -/
def k16 : Class := { plain "[B" (some 0) with kind := .array 15 .byte, interfaces := #[14, 4], accessFlags := 1041 }

/-- the primitive int -/
def k17 : Class := { plain "int" none with kind := .primitive 'I', accessFlags := 0x411 }
/-- [I -/
def k18 : Class := { plain "[I" (some 0) with kind := .array 17 .int, interfaces := #[14, 4], accessFlags := 1041 }

def heap : Heap := #[{ cls := 6, slots := #[.ref 16, .ref 17, .ref 18, .ref 19, .ref 20, .ref 21, .null], vm := .statics 6 },
  { cls := 7, slots := #[.ref 12, .ref 13, .ref 14, .ref 15, .null], vm := .statics 7 },
  { cls := 10, slots := #[.long 0, .int 1, .null, .int 0, .null, .int 0, .int 0], vm := .statics 10 },
  { cls := 12, slots := #[.null, .null, .null], vm := .statics 12 },
  { cls := 16, slots := #[.int 60, .int 49, .int 62], vm := .none },
  { cls := 16, slots := #[.int 60, .int 50, .int 62], vm := .none },
  { cls := 16, slots := #[.int 60, .int 45, .int 49, .int 62], vm := .none },
  { cls := 16, slots := #[.int 60, .int 45, .int 50, .int 62], vm := .none },
  { cls := 10, slots := #[.ref 4, .int 0, .int 0, .int 0], vm := .none },
  { cls := 10, slots := #[.ref 5, .int 0, .int 0, .int 0], vm := .none },
  { cls := 10, slots := #[.ref 6, .int 0, .int 0, .int 0], vm := .none },
  { cls := 10, slots := #[.ref 7, .int 0, .int 0, .int 0], vm := .none },
  { cls := 7, slots := #[.null, .int 0, .int 0, .ref 8], vm := .none },
  { cls := 7, slots := #[.null, .int 1, .int 0, .ref 9], vm := .none },
  { cls := 7, slots := #[.null, .int 2, .int 0, .ref 10], vm := .none },
  { cls := 7, slots := #[.null, .int 3, .int 0, .ref 11], vm := .none },
  { cls := 6, slots := #[.null, .int 0, .int 0, .ref 12], vm := .none },
  { cls := 6, slots := #[.null, .int 1, .int 0, .ref 13], vm := .none },
  { cls := 6, slots := #[.null, .int 2, .int 0, .ref 14], vm := .none },
  { cls := 6, slots := #[.null, .int 3, .int 0, .ref 15], vm := .none },
  { cls := 6, slots := #[.null, .int 4, .int 0, .null], vm := .none },
  { cls := 6, slots := #[.null, .int 5, .int 0, .null], vm := .none }]
def classes : Array Class := #[k0, k1, k2, k3, k4, k5, k6, k7, k8, k9, k10, k11, k12, k13, k14, k15, k16, k17, k18]
def interned : List (Array UInt16 × Addr) := []
def slotsUsed : Nat := 92
def theMethod : MethodId := ⟨1, 2⟩
def args0 : Array Value := #[.int 5]
def aboutOver (below : List Frame) : State where
  vm := { classes := classes, interned := interned.toArray }
  heap := heap
  slotsUsed := slotsUsed
  threads := #[{ frames := .invoking theMethod args0 :: below }]
def below0 : List Frame := [.native { method := ⟨0, 0⟩, args := #[] }]
def about1 : State := aboutOver below0
def p0 : Program := .bare "" "" ""
def e0 : Env := launch0.env 0 0 0
theorem w_frames : about1.frames = Frame.invoking theMethod args0 :: below0 := rfl
set_option maxRecDepth 65536 in
theorem w_args : argsFit about1.vm theMethod args0 = true := by decide +kernel
set_option maxRecDepth 65536 in
theorem w_heap : heapFits about1 = true := by decide +kernel
set_option maxRecDepth 65536 in
theorem w_runnable : about1.curStatus? = some .runnable := by decide +kernel
set_option maxRecDepth 65536 in
theorem w_alone : about1.alone = true := by decide +kernel
set_option maxRecDepth 65536 in
theorem w_named : about1.methodNamed? x = some theMethod := by decide +kernel
set_option maxRecDepth 65536 in
theorem w_hears : about1.hears theMethod below0 = true := by decide +kernel
set_option maxRecDepth 65536 in
theorem w_ripe : about1.ripe theMethod args0 below0 = true := by decide +kernel
theorem w_running : about1.status = .running := rfl
set_option maxRecDepth 65536 in
theorem w_room : about1.hasRoom e0.platform room_1 = true :=
  launch0.hasRoom_least _ room_1 (by decide +kernel) (by decide +kernel) (by decide +kernel) (by decide +kernel) (by decide +kernel) (by decide +kernel)
theorem allAtoms_all (ts : List Jvm.Cond) (a : Array Jvm.Value) (st : Jvm.State) : (allAtoms ts).before a st = ts.all (fun c => c.before a st) := by
  induction ts with
  | nil => rfl
  | cons c t ih =>
    show (Jvm.Cond.and c (allAtoms t)).before a st = _
    rw [Jvm.Cond.before_and, ih, List.all_cons]
def words1 : List Jvm.Cond := Jvm.Cond.code x code maxLocals ret :: tables_1
/-- a 'code' word, met by the world's own term for the bytes: nothing is compared byte by byte -/
theorem code_word {y : MethodName} {bytes : ByteArray} {mx : Nat} {rt : Option FieldType} {a : Array Value} {s : State} {m : MethodId} {meth : Method} {c : Code} (h1 : s.methodNamed? y = some m) (h2 : s.vm.method? m = some meth) (h3 : meth.code = some c) (h4 : c.code = bytes)
    (h5 : (c.maxLocals == mx && c.exceptionTable.isEmpty && decide (c.maxStack ≤ mostOperands) && decide (meth.sig.returnType = rt) && !meth.locks && decide (parseMethodDescriptor y.desc = some meth.sig)) = true) : (Jvm.Cond.code y bytes mx rt).before a s = true := by
  simp only [Bool.and_eq_true, beq_iff_eq, Bool.not_eq_true', decide_eq_true_eq] at h5
  obtain ⟨⟨⟨⟨⟨g1, g2⟩, g3⟩, g4⟩, g5⟩, g6⟩ := h5
  simp [Cond.before, Cond.holds, Cond.value, h1, h2, h3, h4, g1, g2, g3, g4, g5, g6]
def isCode : Jvm.Cond → Bool
  | .code _ _ _ _ => true
  | _ => false
theorem all_split {L : List Jvm.Cond} {P : Jvm.Cond → Bool} (h1 : L.all (fun c => isCode c || P c) = true) (h2 : ∀ c ∈ L.filter isCode, P c = true) : L.all P = true := by
  refine List.all_eq_true.mpr fun c hc => ?_
  have h := List.all_eq_true.mp h1 c hc
  rcases Bool.eq_false_or_eq_true (isCode c) with hi | hi
  · exact h2 c (List.mem_filter.mpr ⟨hc, hi⟩)
  · simpa [hi] using h
set_option maxRecDepth 65536 in
theorem w_c0 : (Jvm.Cond.code x code maxLocals ret).before args0 about1 = true := code_word (m := ⟨1, 2⟩) (meth := k1m2) (c := k1c2) (by decide +kernel) rfl rfl rfl (by decide +kernel)
set_option maxRecDepth 65536 in
theorem w_c1 : (Jvm.Cond.code ({ cls := "com/example/decider/decider/library/xpath/MoveUpwardPinLaw", name := "pick", desc := "(I)Lcom/example/decider/decider/library/xpath/Move;" } : Jvm.MethodName) method_2_code (1 : Nat) (Option.some (Jvm.ClassFile.FieldType.object "com/example/decider/decider/library/xpath/Move"))).before args0 about1 = true := code_word (m := ⟨1, 1⟩) (meth := k1m1) (c := k1c1) (by decide +kernel) rfl rfl rfl (by decide +kernel)
set_option maxRecDepth 65536 in
theorem w_c2 : (Jvm.Cond.code ({ cls := "com/example/decider/decider/library/xpath/Move", name := "upward", desc := "()Z" } : Jvm.MethodName) prog_85_method_6_code (1 : Nat) (Option.some Jvm.ClassFile.FieldType.boolean)).before args0 about1 = true := code_word (m := ⟨6, 2⟩) (meth := k6m2) (c := k6c2) (by decide +kernel) rfl rfl rfl (by decide +kernel)
set_option maxRecDepth 65536 in
theorem w_c3 : (Jvm.Cond.code ({ cls := "com/example/decider/decider/library/xpath/Move", name := "modality", desc := "()Lcom/example/decider/decider/logic/formula/Modality;" } : Jvm.MethodName) prog_85_method_4_code (1 : Nat) (Option.some (Jvm.ClassFile.FieldType.object "com/example/decider/decider/logic/formula/Modality"))).before args0 about1 = true := code_word (m := ⟨6, 0⟩) (meth := k6m0) (c := k6c0) (by decide +kernel) rfl rfl rfl (by decide +kernel)
set_option maxRecDepth 65536 in
theorem w_c4 : (Jvm.Cond.code ({ cls := "com/example/decider/decider/logic/formula/Modality", name := "spelling", desc := "()Ljava/lang/String;" } : Jvm.MethodName) prog_138_method_5_code (1 : Nat) (Option.some (Jvm.ClassFile.FieldType.object "java/lang/String"))).before args0 about1 = true := code_word (m := ⟨7, 0⟩) (meth := k7m0) (c := k7c0) (by decide +kernel) rfl rfl rfl (by decide +kernel)
set_option maxRecDepth 65536 in
theorem w_c5 : (Jvm.Cond.code ({ cls := "java/lang/String", name := "length", desc := "()I" } : Jvm.MethodName) jdk_42_method_54_code (1 : Nat) (Option.some Jvm.ClassFile.FieldType.int)).before args0 about1 = true := code_word (m := ⟨10, 1⟩) (meth := k10m1) (c := k10c1) (by decide +kernel) rfl rfl rfl (by decide +kernel)
set_option maxRecDepth 65536 in
theorem w_c6 : (Jvm.Cond.code ({ cls := "java/lang/String", name := "coder", desc := "()B" } : Jvm.MethodName) jdk_42_method_152_code (1 : Nat) (Option.some Jvm.ClassFile.FieldType.byte)).before args0 about1 = true := code_word (m := ⟨10, 3⟩) (meth := k10m3) (c := k10c3) (by decide +kernel) rfl rfl rfl (by decide +kernel)
set_option maxRecDepth 65536 in
theorem w_c7 : (Jvm.Cond.code ({ cls := "java/lang/String", name := "charAt", desc := "(I)C" } : Jvm.MethodName) jdk_42_method_56_code (2 : Nat) (Option.some Jvm.ClassFile.FieldType.char)).before args0 about1 = true := code_word (m := ⟨10, 2⟩) (meth := k10m2) (c := k10c2) (by decide +kernel) rfl rfl rfl (by decide +kernel)
set_option maxRecDepth 65536 in
theorem w_c8 : (Jvm.Cond.code ({ cls := "java/lang/String", name := "isLatin1", desc := "()Z" } : Jvm.MethodName) jdk_42_method_154_code (1 : Nat) (Option.some Jvm.ClassFile.FieldType.boolean)).before args0 about1 = true := code_word (m := ⟨10, 4⟩) (meth := k10m4) (c := k10c4) (by decide +kernel) rfl rfl rfl (by decide +kernel)
set_option maxRecDepth 65536 in
theorem w_c9 : (Jvm.Cond.code ({ cls := "java/lang/StringLatin1", name := "charAt", desc := "([BI)C" } : Jvm.MethodName) jdk_43_method_2_code (2 : Nat) (Option.some Jvm.ClassFile.FieldType.char)).before args0 about1 = true := code_word (m := ⟨11, 1⟩) (meth := k11m1) (c := k11c1) (by decide +kernel) rfl rfl rfl (by decide +kernel)
set_option maxRecDepth 65536 in
theorem w_c10 : (Jvm.Cond.code ({ cls := "java/lang/String", name := "checkIndex", desc := "(II)V" } : Jvm.MethodName) jdk_42_method_155_code (2 : Nat) (Option.none : Option Jvm.ClassFile.FieldType)).before args0 about1 = true := code_word (m := ⟨10, 5⟩) (meth := k10m5) (c := k10c5) (by decide +kernel) rfl rfl rfl (by decide +kernel)
set_option maxRecDepth 65536 in
theorem w_c11 : (Jvm.Cond.code ({ cls := "jdk/internal/util/Preconditions", name := "checkIndex", desc := "(IILjava/util/function/BiFunction;)I" } : Jvm.MethodName) jdk_41_method_11_code (3 : Nat) (Option.some Jvm.ClassFile.FieldType.int)).before args0 about1 = true := code_word (m := ⟨12, 1⟩) (meth := k12m1) (c := k12c1) (by decide +kernel) rfl rfl rfl (by decide +kernel)
set_option maxRecDepth 65536 in
theorem w_c12 : (Jvm.Cond.code ({ cls := "com/example/decider/decider/library/xpath/Move", name := "inverse", desc := "()Lcom/example/decider/decider/library/xpath/Move;" } : Jvm.MethodName) prog_85_method_5_code (1 : Nat) (Option.some (Jvm.ClassFile.FieldType.object "com/example/decider/decider/library/xpath/Move"))).before args0 about1 = true := code_word (m := ⟨6, 1⟩) (meth := k6m1) (c := k6c1) (by decide +kernel) rfl rfl rfl (by decide +kernel)
set_option maxRecDepth 65536 in
theorem w_c13 : (Jvm.Cond.code ({ cls := "java/lang/Enum", name := "ordinal", desc := "()I" } : Jvm.MethodName) jdk_37_method_2_code (1 : Nat) (Option.some Jvm.ClassFile.FieldType.int)).before args0 about1 = true := code_word (m := ⟨5, 0⟩) (meth := k5m0) (c := k5c0) (by decide +kernel) rfl rfl rfl (by decide +kernel)
def codes1 : List Jvm.Cond := [Jvm.Cond.code x code maxLocals ret, Jvm.Cond.code ({ cls := "com/example/decider/decider/library/xpath/MoveUpwardPinLaw", name := "pick", desc := "(I)Lcom/example/decider/decider/library/xpath/Move;" } : Jvm.MethodName) method_2_code (1 : Nat) (Option.some (Jvm.ClassFile.FieldType.object "com/example/decider/decider/library/xpath/Move")), Jvm.Cond.code ({ cls := "com/example/decider/decider/library/xpath/Move", name := "upward", desc := "()Z" } : Jvm.MethodName) prog_85_method_6_code (1 : Nat) (Option.some Jvm.ClassFile.FieldType.boolean), Jvm.Cond.code ({ cls := "com/example/decider/decider/library/xpath/Move", name := "modality", desc := "()Lcom/example/decider/decider/logic/formula/Modality;" } : Jvm.MethodName) prog_85_method_4_code (1 : Nat) (Option.some (Jvm.ClassFile.FieldType.object "com/example/decider/decider/logic/formula/Modality")), Jvm.Cond.code ({ cls := "com/example/decider/decider/logic/formula/Modality", name := "spelling", desc := "()Ljava/lang/String;" } : Jvm.MethodName) prog_138_method_5_code (1 : Nat) (Option.some (Jvm.ClassFile.FieldType.object "java/lang/String")), Jvm.Cond.code ({ cls := "java/lang/String", name := "length", desc := "()I" } : Jvm.MethodName) jdk_42_method_54_code (1 : Nat) (Option.some Jvm.ClassFile.FieldType.int), Jvm.Cond.code ({ cls := "java/lang/String", name := "coder", desc := "()B" } : Jvm.MethodName) jdk_42_method_152_code (1 : Nat) (Option.some Jvm.ClassFile.FieldType.byte), Jvm.Cond.code ({ cls := "java/lang/String", name := "charAt", desc := "(I)C" } : Jvm.MethodName) jdk_42_method_56_code (2 : Nat) (Option.some Jvm.ClassFile.FieldType.char), Jvm.Cond.code ({ cls := "java/lang/String", name := "isLatin1", desc := "()Z" } : Jvm.MethodName) jdk_42_method_154_code (1 : Nat) (Option.some Jvm.ClassFile.FieldType.boolean), Jvm.Cond.code ({ cls := "java/lang/StringLatin1", name := "charAt", desc := "([BI)C" } : Jvm.MethodName) jdk_43_method_2_code (2 : Nat) (Option.some Jvm.ClassFile.FieldType.char), Jvm.Cond.code ({ cls := "java/lang/String", name := "checkIndex", desc := "(II)V" } : Jvm.MethodName) jdk_42_method_155_code (2 : Nat) (Option.none : Option Jvm.ClassFile.FieldType), Jvm.Cond.code ({ cls := "jdk/internal/util/Preconditions", name := "checkIndex", desc := "(IILjava/util/function/BiFunction;)I" } : Jvm.MethodName) jdk_41_method_11_code (3 : Nat) (Option.some Jvm.ClassFile.FieldType.int), Jvm.Cond.code ({ cls := "com/example/decider/decider/library/xpath/Move", name := "inverse", desc := "()Lcom/example/decider/decider/library/xpath/Move;" } : Jvm.MethodName) prog_85_method_5_code (1 : Nat) (Option.some (Jvm.ClassFile.FieldType.object "com/example/decider/decider/library/xpath/Move")), Jvm.Cond.code ({ cls := "java/lang/Enum", name := "ordinal", desc := "()I" } : Jvm.MethodName) jdk_37_method_2_code (1 : Nat) (Option.some Jvm.ClassFile.FieldType.int)]
set_option maxRecDepth 65536 in
theorem codes_eq : words1.filter isCode = codes1 := rfl
theorem w_codes : ∀ c ∈ words1.filter isCode, c.before args0 about1 = true := by
  rw [codes_eq]
  intro c hc
  simp only [codes1, List.mem_cons, List.not_mem_nil, or_false] at hc
  rcases hc with rfl | rfl | rfl | rfl | rfl | rfl | rfl | rfl | rfl | rfl | rfl | rfl | rfl | rfl
  · exact w_c0
  · exact w_c1
  · exact w_c2
  · exact w_c3
  · exact w_c4
  · exact w_c5
  · exact w_c6
  · exact w_c7
  · exact w_c8
  · exact w_c9
  · exact w_c10
  · exact w_c11
  · exact w_c12
  · exact w_c13
set_option maxRecDepth 65536 in
theorem w_t1 : (words1.take 24).all (fun c => isCode c || c.before args0 about1) = true := by decide +kernel
set_option maxRecDepth 65536 in
theorem w_t2 : ((words1.drop 24).take 24).all (fun c => isCode c || c.before args0 about1) = true := by decide +kernel
set_option maxRecDepth 65536 in
theorem w_t3 : (((words1.drop 24).drop 24).take 24).all (fun c => isCode c || c.before args0 about1) = true := by decide +kernel
set_option maxRecDepth 65536 in
theorem w_t4 : ((((words1.drop 24).drop 24).drop 24).take 24).all (fun c => isCode c || c.before args0 about1) = true := by decide +kernel
set_option maxRecDepth 65536 in
theorem w_t5 : ((((words1.drop 24).drop 24).drop 24).drop 24).all (fun c => isCode c || c.before args0 about1) = true := by decide +kernel
theorem w_tables : (allAtoms (Jvm.Cond.code x code maxLocals ret :: tables_1)).before args0 about1 = true := by
  rw [allAtoms_all]
  show words1.all (fun c => c.before args0 about1) = true
  refine all_split ?_ w_codes
  rw [← List.take_append_drop 24 words1, List.all_append, w_t1, ← List.take_append_drop 24 (words1.drop 24), List.all_append, w_t2, ← List.take_append_drop 24 ((words1.drop 24).drop 24), List.all_append, w_t3, ← List.take_append_drop 24 (((words1.drop 24).drop 24).drop 24), List.all_append, w_t4, w_t5]
  rfl
set_option maxRecDepth 65536 in
theorem w_rest : rest_1_c.before args0 about1 = true := by decide +kernel
set_option maxRecDepth 65536 in
theorem w_case : (Jvm.Cond.and given_1 narrow_1).before args0 about1 = true := by decide +kernel
theorem w_applies : (headSpec (Jvm.Cond.code x code maxLocals ret :: tables_1) room_1).applies x e0.platform about1 = true :=
  (Spec.applies_iff w_frames).mpr ⟨w_running, w_runnable, w_alone, w_named, w_hears, w_ripe, w_room, w_tables⟩
theorem atStart : AtStart classFile x code maxLocals ret World_1 tables_1 room_1 Calls_1 rest_1 Pre_1 launch0 p0 e0 about1 theMethod args0 below0 :=
  ⟨lists_1, trivial, launch0.admits_env _ _ _, launch0.least_env, fairChoices_fair.cas, fairChoices_fair.clock, w_frames, w_args, w_heap, w_applies, trivial, w_rest, w_case⟩
end start1
theorem witness_1 : WitnessClaimed_1 := ⟨start1.p0, start1.e0, start1.about1, start1.theMethod, start1.args0, start1.below0, start1.atStart⟩
end Jvm.Pilot.@@N@@
