import JvmDerived
import JvmDerived.Pilot.@@N@@Statement
import JvmDerived.Pilot.@@N@@Code
set_option linter.unusedVariables false
set_option linter.unusedSimpArgs false
namespace Jvm.Pilot.@@N@@
open Jvm Jvm.ClassFile Sem Op Lib Jvm.Free Jvm.Stand Jvm.LawKit Jvm.RoadKit Bundle Jvm.Pilot.@@N@@.Jvm.D
theorem own_go {tb : Tables} {e : Env} {below : List Frame} {A B : State} {P : State → Outcome → Prop} (h : ∀ t, Steps tb e below B t → Steps tb e below A t) (k : ∃ s₂ o, Steps tb e below B s₂ ∧ P s₂ o) : ∃ s₂ o, Steps tb e below A s₂ ∧ P s₂ o := by
  obtain ⟨s₂, o, h1, h2⟩ := k; exact ⟨s₂, o, h _ h1, h2⟩
theorem d1_0 : decode method_3_code 0 = .ok (.iload_n 0, 1) := by decide +kernel
theorem d1_1 : decode method_3_code 1 = .ok (.ifCond .ne 7, 3) := by decide +kernel
theorem d1_4 : decode method_3_code 4 = .ok (.getstatic 20, 3) := by decide +kernel
theorem d1_7 : decode method_3_code 7 = .ok (.areturn, 1) := by decide +kernel
theorem pn_0 : plainName "com/example/decider/decider/library/xpath/AxisLeadsToOneNodePinLaw" = true := by first | (simp [plainName, overriddenIn]; done) | decide +kernel
theorem d1_8 : decode method_3_code 8 = .ok (.iload_n 0, 1) := by decide +kernel
theorem d1_9 : decode method_3_code 9 = .ok (.iconst 1, 1) := by decide +kernel
theorem d1_10 : decode method_3_code 10 = .ok (.if_icmp .ne 7, 3) := by decide +kernel
theorem d1_13 : decode method_3_code 13 = .ok (.getstatic 24, 3) := by decide +kernel
theorem d1_16 : decode method_3_code 16 = .ok (.areturn, 1) := by decide +kernel
theorem d1_17 : decode method_3_code 17 = .ok (.iload_n 0, 1) := by decide +kernel
theorem d1_18 : decode method_3_code 18 = .ok (.iconst 2, 1) := by decide +kernel
theorem d1_19 : decode method_3_code 19 = .ok (.if_icmp .ne 7, 3) := by decide +kernel
theorem d1_22 : decode method_3_code 22 = .ok (.getstatic 27, 3) := by decide +kernel
theorem d1_25 : decode method_3_code 25 = .ok (.areturn, 1) := by decide +kernel
theorem d1_26 : decode method_3_code 26 = .ok (.iload_n 0, 1) := by decide +kernel
theorem d1_27 : decode method_3_code 27 = .ok (.iconst 3, 1) := by decide +kernel
theorem d1_28 : decode method_3_code 28 = .ok (.if_icmp .ne 7, 3) := by decide +kernel
theorem d1_31 : decode method_3_code 31 = .ok (.getstatic 30, 3) := by decide +kernel
theorem d1_34 : decode method_3_code 34 = .ok (.areturn, 1) := by decide +kernel
theorem d1_35 : decode method_3_code 35 = .ok (.iload_n 0, 1) := by decide +kernel
theorem d1_36 : decode method_3_code 36 = .ok (.iconst 4, 1) := by decide +kernel
theorem d1_37 : decode method_3_code 37 = .ok (.if_icmp .ne 7, 3) := by decide +kernel
theorem d1_40 : decode method_3_code 40 = .ok (.getstatic 33, 3) := by decide +kernel
theorem d1_43 : decode method_3_code 43 = .ok (.areturn, 1) := by decide +kernel
theorem d1_44 : decode method_3_code 44 = .ok (.iload_n 0, 1) := by decide +kernel
theorem d1_45 : decode method_3_code 45 = .ok (.iconst 5, 1) := by decide +kernel
theorem d1_46 : decode method_3_code 46 = .ok (.if_icmp .ne 7, 3) := by decide +kernel
theorem d1_49 : decode method_3_code 49 = .ok (.getstatic 36, 3) := by decide +kernel
theorem d1_52 : decode method_3_code 52 = .ok (.areturn, 1) := by decide +kernel
theorem d1_53 : decode method_3_code 53 = .ok (.iload_n 0, 1) := by decide +kernel
theorem d1_54 : decode method_3_code 54 = .ok (.bipush 6, 2) := by decide +kernel
theorem d1_56 : decode method_3_code 56 = .ok (.if_icmp .ne 7, 3) := by decide +kernel
theorem d1_59 : decode method_3_code 59 = .ok (.getstatic 39, 3) := by decide +kernel
theorem d1_62 : decode method_3_code 62 = .ok (.areturn, 1) := by decide +kernel
theorem d1_63 : decode method_3_code 63 = .ok (.iload_n 0, 1) := by decide +kernel
theorem d1_64 : decode method_3_code 64 = .ok (.bipush 7, 2) := by decide +kernel
theorem d1_66 : decode method_3_code 66 = .ok (.if_icmp .ne 7, 3) := by decide +kernel
theorem d1_69 : decode method_3_code 69 = .ok (.getstatic 42, 3) := by decide +kernel
theorem d1_72 : decode method_3_code 72 = .ok (.areturn, 1) := by decide +kernel
theorem d1_73 : decode method_3_code 73 = .ok (.iload_n 0, 1) := by decide +kernel
theorem d1_74 : decode method_3_code 74 = .ok (.bipush 8, 2) := by decide +kernel
theorem d1_76 : decode method_3_code 76 = .ok (.if_icmp .ne 7, 3) := by decide +kernel
theorem d1_79 : decode method_3_code 79 = .ok (.getstatic 45, 3) := by decide +kernel
theorem d1_82 : decode method_3_code 82 = .ok (.areturn, 1) := by decide +kernel
theorem d1_83 : decode method_3_code 83 = .ok (.iload_n 0, 1) := by decide +kernel
theorem d1_84 : decode method_3_code 84 = .ok (.bipush 9, 2) := by decide +kernel
theorem d1_86 : decode method_3_code 86 = .ok (.if_icmp .ne 7, 3) := by decide +kernel
theorem d1_89 : decode method_3_code 89 = .ok (.getstatic 48, 3) := by decide +kernel
theorem d1_92 : decode method_3_code 92 = .ok (.areturn, 1) := by decide +kernel
theorem d1_93 : decode method_3_code 93 = .ok (.getstatic 51, 3) := by decide +kernel
theorem d1_96 : decode method_3_code 96 = .ok (.areturn, 1) := by decide +kernel
theorem d2_0 : decode prog_61_method_6_code 0 = .ok (.aload_n 0, 1) := by decide +kernel
theorem d2_1 : decode prog_61_method_6_code 1 = .ok (.getstatic 3, 3) := by decide +kernel
theorem d2_4 : decode prog_61_method_6_code 4 = .ok (.if_acmp .eq 10, 3) := by decide +kernel
theorem d2_14 : decode prog_61_method_6_code 14 = .ok (.iconst 1, 1) := by decide +kernel
theorem d2_15 : decode prog_61_method_6_code 15 = .ok (.goto 4, 3) := by decide +kernel
theorem d2_19 : decode prog_61_method_6_code 19 = .ok (.ireturn, 1) := by decide +kernel
theorem d2_7 : decode prog_61_method_6_code 7 = .ok (.aload_n 0, 1) := by decide +kernel
theorem d2_8 : decode prog_61_method_6_code 8 = .ok (.getstatic 10, 3) := by decide +kernel
theorem d2_11 : decode prog_61_method_6_code 11 = .ok (.if_acmp .ne 7, 3) := by decide +kernel
theorem d2_18 : decode prog_61_method_6_code 18 = .ok (.iconst 0, 1) := by decide +kernel
theorem pn_1 : plainName "com/example/decider/decider/library/xpath/Axis" = true := by first | (simp [plainName, overriddenIn]; done) | decide +kernel
theorem pd_0 : parseMethodDescriptor "(I)Lcom/example/decider/decider/library/xpath/Axis;" = some ⟨[.int], some (.object "com/example/decider/decider/library/xpath/Axis")⟩ := by decide +kernel
theorem pd_1 : parseMethodDescriptor "()Z" = some ⟨[], some .boolean⟩ := by decide +kernel
def Qrm1_0 (Z : State) (s_Axis_SELF : Addr) (h0 : Heap) (n0 : Nat) (v : Option Value) (h : Heap) (L : List Loc) : Prop := v = some (.ref s_Axis_SELF) ∧ Fr n0 L ∧ h = h0
theorem efrm1_0 (m : MethodId)  : entryFrame m #[(.int (0 : Int32))] 1 = mkF m 0 #[.val (.int (0 : Int32))] [] := by first | (simp [entryFrame, mkF, argsToLocals, Value.category]; done) | rfl
set_option maxRecDepth 65536 in
set_option maxHeartbeats 40000000 in
theorem rm1_0 (l : Launch) (Z : State) (a0 : Array Value) (hw : ∀ d ∈ tables_1, d.before a0 Z = true) (ws : List Jvm.Cond) (s_Axis_SELF : Addr) (h0 : Heap) (n0 : Nat) (Z0 : n0 ≤ h0.size) (P0 : Sta Z h0 "com/example/decider/decider/library/xpath/Axis" "SELF" "Lcom/example/decider/decider/library/xpath/Axis;" (.ref s_Axis_SELF)) :
    MetFree l (⟨"com/example/decider/decider/library/xpath/AxisLeadsToOneNodePinLaw", "pick", "(I)Lcom/example/decider/decider/library/xpath/Axis;"⟩ : MethodName) (head1 (Jvm.Cond.code (⟨"com/example/decider/decider/library/xpath/AxisLeadsToOneNodePinLaw", "pick", "(I)Lcom/example/decider/decider/library/xpath/Axis;"⟩ : MethodName) method_3_code 1 (some (.object "com/example/decider/decider/library/xpath/Axis")) :: ws) ({ frames := 0, cells := 0, slots := 0, locals := 0 } : Room)) (fun a U => a = #[(.int (0 : Int32))] ∧ Z.Warmed39 U.vm ∧ U.heap = h0) (fun _ _ _ _ _ => True) (fun _ U o U' => ∃ v L, o = .returned v ∧ Qrm1_0 Z s_Axis_SELF h0 n0 v U'.heap L ∧ FrameEnd U o U' L ({ frames := 0, cells := 0, slots := 0, locals := 0 } : Room).cells ({ frames := 0, cells := 0, slots := 0, locals := 0 } : Room).slots) := by
  refine MetFree.of_bodySF (plainFor_of_name pn_0) hisR ?_
  intro p e s m args below meth c s₁ Bd hml0 hP hK
  obtain ⟨rfl, hZ, hh⟩ := hP
  have hx := Bd.exec
  have hby := Bd.bytes
  have hml : c.maxLocals = 1 := hml0
  have hown : s.vm.findClass "com/example/decider/decider/library/xpath/AxisLeadsToOneNodePinLaw" = some m.cls := findClass_of_methodNamed Bd.named
  have hnm := (name_of_methodNamed Bd.named Bd.method).1
  have X0 : Stand p l e ({ frames := 0, cells := 0, slots := 0, locals := 0 } : Room) s m #[(.int (0 : Int32))] below meth c s₁ [] 0 0 := Stand.of_body Bd
  have e0 : s₁.heap = h0 := by rw [← hh, Bd.state]; rfl
  have N0 := Fr.nil n0
  have K0 : Keep h0 h0 [] := Keep.refl h0 _
  refine own_go (B := s₁.setTop (mkF m 0 #[.val (.int (0 : Int32))] [])) (fun t k => castTop (efrm1_0 m ) k) ?_
  refine own_go (A := s₁.setTop (mkF m 0 #[.val (.int (0 : Int32))] [])) (B := s₁.setTop (mkF m 4 #[.val (.int (0 : Int32))] [])) (fun t k => ?_) ?_
  · show Steps p.tables e below (s₁.setTop (mkF m 0 #[.val (.int (0 : Int32))] [])) _
    refine XS.iloadN X0.here hx rfl (hb hby d1_0) rfl ?_
    show Steps p.tables e below (s₁.setTop (mkF m 1 #[.val (.int (0 : Int32))] [(.int (0 : Int32))])) _
    refine XS.ifNo X0.here hx rfl (hb hby d1_1) rfl ((if0 _ _).trans (teq (rfl : (0 : Int32) = (0 : Int32))).2) ?_
    exact k
  obtain ⟨T2, X2, e2, st2⟩ := getS2 X0 hx hZ hown (host := "") (Or.inl (hw _ (List.mem_of_getElem? (i := 5) rfl))) Via.refl e0 P0 (g := (mkF m 4 #[.val (.int (0 : Int32))] [])) rfl (hb hby d1_4)
  refine own_go st2 ?_
  obtain ⟨fs, hr, hrun, hended, hW, hsame⟩ := X2.leave (v := some (.ref s_Axis_SELF)) (fun h => by rw [Bd.returns] at h; cases h)
  refine ⟨_, _, ?_, hrun, hended, _, _, rfl, ?_, ⟨_, rfl⟩, hW, hsame.mono (by decide) (by decide)⟩
  · show Steps p.tables e below (T2.setTop (mkF m 7 #[.val (.int (0 : Int32))] [(.ref s_Axis_SELF)])) _
    exact retOut X2 hx Bd.returns rfl (Or.inr (Or.inr (Or.inr (Or.inr ⟨rfl, rfl, rfl⟩)))) (hb hby d1_7) hr
  · show Qrm1_0 Z s_Axis_SELF h0 n0 _ T2.heap _
    rw [e2]
    exact ⟨rfl, N0, rfl⟩
def Qrm1_1 (Z : State) (s_Axis_CHILD : Addr) (h0 : Heap) (n0 : Nat) (v : Option Value) (h : Heap) (L : List Loc) : Prop := v = some (.ref s_Axis_CHILD) ∧ Fr n0 L ∧ h = h0
theorem efrm1_1 (m : MethodId)  : entryFrame m #[(.int (1 : Int32))] 1 = mkF m 0 #[.val (.int (1 : Int32))] [] := by first | (simp [entryFrame, mkF, argsToLocals, Value.category]; done) | rfl
set_option maxRecDepth 65536 in
set_option maxHeartbeats 40000000 in
theorem rm1_1 (l : Launch) (Z : State) (a0 : Array Value) (hw : ∀ d ∈ tables_1, d.before a0 Z = true) (ws : List Jvm.Cond) (s_Axis_CHILD : Addr) (h0 : Heap) (n0 : Nat) (Z0 : n0 ≤ h0.size) (P0 : Sta Z h0 "com/example/decider/decider/library/xpath/Axis" "CHILD" "Lcom/example/decider/decider/library/xpath/Axis;" (.ref s_Axis_CHILD)) :
    MetFree l (⟨"com/example/decider/decider/library/xpath/AxisLeadsToOneNodePinLaw", "pick", "(I)Lcom/example/decider/decider/library/xpath/Axis;"⟩ : MethodName) (head1 (Jvm.Cond.code (⟨"com/example/decider/decider/library/xpath/AxisLeadsToOneNodePinLaw", "pick", "(I)Lcom/example/decider/decider/library/xpath/Axis;"⟩ : MethodName) method_3_code 1 (some (.object "com/example/decider/decider/library/xpath/Axis")) :: ws) ({ frames := 0, cells := 0, slots := 0, locals := 0 } : Room)) (fun a U => a = #[(.int (1 : Int32))] ∧ Z.Warmed39 U.vm ∧ U.heap = h0) (fun _ _ _ _ _ => True) (fun _ U o U' => ∃ v L, o = .returned v ∧ Qrm1_1 Z s_Axis_CHILD h0 n0 v U'.heap L ∧ FrameEnd U o U' L ({ frames := 0, cells := 0, slots := 0, locals := 0 } : Room).cells ({ frames := 0, cells := 0, slots := 0, locals := 0 } : Room).slots) := by
  refine MetFree.of_bodySF (plainFor_of_name pn_0) hisR ?_
  intro p e s m args below meth c s₁ Bd hml0 hP hK
  obtain ⟨rfl, hZ, hh⟩ := hP
  have hx := Bd.exec
  have hby := Bd.bytes
  have hml : c.maxLocals = 1 := hml0
  have hown : s.vm.findClass "com/example/decider/decider/library/xpath/AxisLeadsToOneNodePinLaw" = some m.cls := findClass_of_methodNamed Bd.named
  have hnm := (name_of_methodNamed Bd.named Bd.method).1
  have X0 : Stand p l e ({ frames := 0, cells := 0, slots := 0, locals := 0 } : Room) s m #[(.int (1 : Int32))] below meth c s₁ [] 0 0 := Stand.of_body Bd
  have e0 : s₁.heap = h0 := by rw [← hh, Bd.state]; rfl
  have N0 := Fr.nil n0
  have K0 : Keep h0 h0 [] := Keep.refl h0 _
  refine own_go (B := s₁.setTop (mkF m 0 #[.val (.int (1 : Int32))] [])) (fun t k => castTop (efrm1_1 m ) k) ?_
  refine own_go (A := s₁.setTop (mkF m 0 #[.val (.int (1 : Int32))] [])) (B := s₁.setTop (mkF m 13 #[.val (.int (1 : Int32))] [])) (fun t k => ?_) ?_
  · show Steps p.tables e below (s₁.setTop (mkF m 0 #[.val (.int (1 : Int32))] [])) _
    refine XS.iloadN X0.here hx rfl (hb hby d1_0) rfl ?_
    show Steps p.tables e below (s₁.setTop (mkF m 1 #[.val (.int (1 : Int32))] [(.int (1 : Int32))])) _
    refine XS.ifYes X0.here hx rfl (pc0 := 1) (pc' := 8) rfl (hb hby d1_1) rfl ((if0 _ _).trans (feq (by decide : ¬ ((1 : Int32) = (0 : Int32)))).2) (by decide) (by decide) ?_
    show Steps p.tables e below (s₁.setTop (mkF m 8 #[.val (.int (1 : Int32))] [])) _
    refine XS.iloadN X0.here hx rfl (hb hby d1_8) rfl ?_
    show Steps p.tables e below (s₁.setTop (mkF m 9 #[.val (.int (1 : Int32))] [(.int (1 : Int32))])) _
    refine XS.iconst X0.here hx rfl (hb hby d1_9) ?_
    show Steps p.tables e below (s₁.setTop (mkF m 10 #[.val (.int (1 : Int32))] [(.int (1 : Int32)), (.int (1 : Int32))])) _
    refine XS.icmpNo X0.here hx rfl (hb hby d1_10) rfl (teq (rfl : (1 : Int32) = (1 : Int32))).2 ?_
    exact k
  obtain ⟨T5, X5, e5, st5⟩ := getS2 X0 hx hZ hown (host := "") (Or.inl (hw _ (List.mem_of_getElem? (i := 25) rfl))) Via.refl e0 P0 (g := (mkF m 13 #[.val (.int (1 : Int32))] [])) rfl (hb hby d1_13)
  refine own_go st5 ?_
  obtain ⟨fs, hr, hrun, hended, hW, hsame⟩ := X5.leave (v := some (.ref s_Axis_CHILD)) (fun h => by rw [Bd.returns] at h; cases h)
  refine ⟨_, _, ?_, hrun, hended, _, _, rfl, ?_, ⟨_, rfl⟩, hW, hsame.mono (by decide) (by decide)⟩
  · show Steps p.tables e below (T5.setTop (mkF m 16 #[.val (.int (1 : Int32))] [(.ref s_Axis_CHILD)])) _
    exact retOut X5 hx Bd.returns rfl (Or.inr (Or.inr (Or.inr (Or.inr ⟨rfl, rfl, rfl⟩)))) (hb hby d1_16) hr
  · show Qrm1_1 Z s_Axis_CHILD h0 n0 _ T5.heap _
    rw [e5]
    exact ⟨rfl, N0, rfl⟩
def Qrm1_2 (Z : State) (s_Axis_PARENT : Addr) (h0 : Heap) (n0 : Nat) (v : Option Value) (h : Heap) (L : List Loc) : Prop := v = some (.ref s_Axis_PARENT) ∧ Fr n0 L ∧ h = h0
theorem efrm1_2 (m : MethodId)  : entryFrame m #[(.int (2 : Int32))] 1 = mkF m 0 #[.val (.int (2 : Int32))] [] := by first | (simp [entryFrame, mkF, argsToLocals, Value.category]; done) | rfl
set_option maxRecDepth 65536 in
set_option maxHeartbeats 40000000 in
theorem rm1_2 (l : Launch) (Z : State) (a0 : Array Value) (hw : ∀ d ∈ tables_1, d.before a0 Z = true) (ws : List Jvm.Cond) (s_Axis_PARENT : Addr) (h0 : Heap) (n0 : Nat) (Z0 : n0 ≤ h0.size) (P0 : Sta Z h0 "com/example/decider/decider/library/xpath/Axis" "PARENT" "Lcom/example/decider/decider/library/xpath/Axis;" (.ref s_Axis_PARENT)) :
    MetFree l (⟨"com/example/decider/decider/library/xpath/AxisLeadsToOneNodePinLaw", "pick", "(I)Lcom/example/decider/decider/library/xpath/Axis;"⟩ : MethodName) (head1 (Jvm.Cond.code (⟨"com/example/decider/decider/library/xpath/AxisLeadsToOneNodePinLaw", "pick", "(I)Lcom/example/decider/decider/library/xpath/Axis;"⟩ : MethodName) method_3_code 1 (some (.object "com/example/decider/decider/library/xpath/Axis")) :: ws) ({ frames := 0, cells := 0, slots := 0, locals := 0 } : Room)) (fun a U => a = #[(.int (2 : Int32))] ∧ Z.Warmed39 U.vm ∧ U.heap = h0) (fun _ _ _ _ _ => True) (fun _ U o U' => ∃ v L, o = .returned v ∧ Qrm1_2 Z s_Axis_PARENT h0 n0 v U'.heap L ∧ FrameEnd U o U' L ({ frames := 0, cells := 0, slots := 0, locals := 0 } : Room).cells ({ frames := 0, cells := 0, slots := 0, locals := 0 } : Room).slots) := by
  refine MetFree.of_bodySF (plainFor_of_name pn_0) hisR ?_
  intro p e s m args below meth c s₁ Bd hml0 hP hK
  obtain ⟨rfl, hZ, hh⟩ := hP
  have hx := Bd.exec
  have hby := Bd.bytes
  have hml : c.maxLocals = 1 := hml0
  have hown : s.vm.findClass "com/example/decider/decider/library/xpath/AxisLeadsToOneNodePinLaw" = some m.cls := findClass_of_methodNamed Bd.named
  have hnm := (name_of_methodNamed Bd.named Bd.method).1
  have X0 : Stand p l e ({ frames := 0, cells := 0, slots := 0, locals := 0 } : Room) s m #[(.int (2 : Int32))] below meth c s₁ [] 0 0 := Stand.of_body Bd
  have e0 : s₁.heap = h0 := by rw [← hh, Bd.state]; rfl
  have N0 := Fr.nil n0
  have K0 : Keep h0 h0 [] := Keep.refl h0 _
  refine own_go (B := s₁.setTop (mkF m 0 #[.val (.int (2 : Int32))] [])) (fun t k => castTop (efrm1_2 m ) k) ?_
  refine own_go (A := s₁.setTop (mkF m 0 #[.val (.int (2 : Int32))] [])) (B := s₁.setTop (mkF m 22 #[.val (.int (2 : Int32))] [])) (fun t k => ?_) ?_
  · show Steps p.tables e below (s₁.setTop (mkF m 0 #[.val (.int (2 : Int32))] [])) _
    refine XS.iloadN X0.here hx rfl (hb hby d1_0) rfl ?_
    show Steps p.tables e below (s₁.setTop (mkF m 1 #[.val (.int (2 : Int32))] [(.int (2 : Int32))])) _
    refine XS.ifYes X0.here hx rfl (pc0 := 1) (pc' := 8) rfl (hb hby d1_1) rfl ((if0 _ _).trans (feq (by decide : ¬ ((2 : Int32) = (0 : Int32)))).2) (by decide) (by decide) ?_
    show Steps p.tables e below (s₁.setTop (mkF m 8 #[.val (.int (2 : Int32))] [])) _
    refine XS.iloadN X0.here hx rfl (hb hby d1_8) rfl ?_
    show Steps p.tables e below (s₁.setTop (mkF m 9 #[.val (.int (2 : Int32))] [(.int (2 : Int32))])) _
    refine XS.iconst X0.here hx rfl (hb hby d1_9) ?_
    show Steps p.tables e below (s₁.setTop (mkF m 10 #[.val (.int (2 : Int32))] [(.int (1 : Int32)), (.int (2 : Int32))])) _
    refine XS.icmpYes X0.here hx rfl (pc0 := 10) (pc' := 17) rfl (hb hby d1_10) rfl (feq (by decide : ¬ ((2 : Int32) = (1 : Int32)))).2 (by decide) (by decide) ?_
    show Steps p.tables e below (s₁.setTop (mkF m 17 #[.val (.int (2 : Int32))] [])) _
    refine XS.iloadN X0.here hx rfl (hb hby d1_17) rfl ?_
    show Steps p.tables e below (s₁.setTop (mkF m 18 #[.val (.int (2 : Int32))] [(.int (2 : Int32))])) _
    refine XS.iconst X0.here hx rfl (hb hby d1_18) ?_
    show Steps p.tables e below (s₁.setTop (mkF m 19 #[.val (.int (2 : Int32))] [(.int (2 : Int32)), (.int (2 : Int32))])) _
    refine XS.icmpNo X0.here hx rfl (hb hby d1_19) rfl (teq (rfl : (2 : Int32) = (2 : Int32))).2 ?_
    exact k
  obtain ⟨T9, X9, e9, st9⟩ := getS2 X0 hx hZ hown (host := "") (Or.inl (hw _ (List.mem_of_getElem? (i := 22) rfl))) Via.refl e0 P0 (g := (mkF m 22 #[.val (.int (2 : Int32))] [])) rfl (hb hby d1_22)
  refine own_go st9 ?_
  obtain ⟨fs, hr, hrun, hended, hW, hsame⟩ := X9.leave (v := some (.ref s_Axis_PARENT)) (fun h => by rw [Bd.returns] at h; cases h)
  refine ⟨_, _, ?_, hrun, hended, _, _, rfl, ?_, ⟨_, rfl⟩, hW, hsame.mono (by decide) (by decide)⟩
  · show Steps p.tables e below (T9.setTop (mkF m 25 #[.val (.int (2 : Int32))] [(.ref s_Axis_PARENT)])) _
    exact retOut X9 hx Bd.returns rfl (Or.inr (Or.inr (Or.inr (Or.inr ⟨rfl, rfl, rfl⟩)))) (hb hby d1_25) hr
  · show Qrm1_2 Z s_Axis_PARENT h0 n0 _ T9.heap _
    rw [e9]
    exact ⟨rfl, N0, rfl⟩
def Qrm1_3 (Z : State) (s_Axis_DESCENDANT : Addr) (h0 : Heap) (n0 : Nat) (v : Option Value) (h : Heap) (L : List Loc) : Prop := v = some (.ref s_Axis_DESCENDANT) ∧ Fr n0 L ∧ h = h0
theorem efrm1_3 (m : MethodId)  : entryFrame m #[(.int (3 : Int32))] 1 = mkF m 0 #[.val (.int (3 : Int32))] [] := by first | (simp [entryFrame, mkF, argsToLocals, Value.category]; done) | rfl
set_option maxRecDepth 65536 in
set_option maxHeartbeats 40000000 in
theorem rm1_3 (l : Launch) (Z : State) (a0 : Array Value) (hw : ∀ d ∈ tables_1, d.before a0 Z = true) (ws : List Jvm.Cond) (s_Axis_DESCENDANT : Addr) (h0 : Heap) (n0 : Nat) (Z0 : n0 ≤ h0.size) (P0 : Sta Z h0 "com/example/decider/decider/library/xpath/Axis" "DESCENDANT" "Lcom/example/decider/decider/library/xpath/Axis;" (.ref s_Axis_DESCENDANT)) :
    MetFree l (⟨"com/example/decider/decider/library/xpath/AxisLeadsToOneNodePinLaw", "pick", "(I)Lcom/example/decider/decider/library/xpath/Axis;"⟩ : MethodName) (head1 (Jvm.Cond.code (⟨"com/example/decider/decider/library/xpath/AxisLeadsToOneNodePinLaw", "pick", "(I)Lcom/example/decider/decider/library/xpath/Axis;"⟩ : MethodName) method_3_code 1 (some (.object "com/example/decider/decider/library/xpath/Axis")) :: ws) ({ frames := 0, cells := 0, slots := 0, locals := 0 } : Room)) (fun a U => a = #[(.int (3 : Int32))] ∧ Z.Warmed39 U.vm ∧ U.heap = h0) (fun _ _ _ _ _ => True) (fun _ U o U' => ∃ v L, o = .returned v ∧ Qrm1_3 Z s_Axis_DESCENDANT h0 n0 v U'.heap L ∧ FrameEnd U o U' L ({ frames := 0, cells := 0, slots := 0, locals := 0 } : Room).cells ({ frames := 0, cells := 0, slots := 0, locals := 0 } : Room).slots) := by
  refine MetFree.of_bodySF (plainFor_of_name pn_0) hisR ?_
  intro p e s m args below meth c s₁ Bd hml0 hP hK
  obtain ⟨rfl, hZ, hh⟩ := hP
  have hx := Bd.exec
  have hby := Bd.bytes
  have hml : c.maxLocals = 1 := hml0
  have hown : s.vm.findClass "com/example/decider/decider/library/xpath/AxisLeadsToOneNodePinLaw" = some m.cls := findClass_of_methodNamed Bd.named
  have hnm := (name_of_methodNamed Bd.named Bd.method).1
  have X0 : Stand p l e ({ frames := 0, cells := 0, slots := 0, locals := 0 } : Room) s m #[(.int (3 : Int32))] below meth c s₁ [] 0 0 := Stand.of_body Bd
  have e0 : s₁.heap = h0 := by rw [← hh, Bd.state]; rfl
  have N0 := Fr.nil n0
  have K0 : Keep h0 h0 [] := Keep.refl h0 _
  refine own_go (B := s₁.setTop (mkF m 0 #[.val (.int (3 : Int32))] [])) (fun t k => castTop (efrm1_3 m ) k) ?_
  refine own_go (A := s₁.setTop (mkF m 0 #[.val (.int (3 : Int32))] [])) (B := s₁.setTop (mkF m 31 #[.val (.int (3 : Int32))] [])) (fun t k => ?_) ?_
  · show Steps p.tables e below (s₁.setTop (mkF m 0 #[.val (.int (3 : Int32))] [])) _
    refine XS.iloadN X0.here hx rfl (hb hby d1_0) rfl ?_
    show Steps p.tables e below (s₁.setTop (mkF m 1 #[.val (.int (3 : Int32))] [(.int (3 : Int32))])) _
    refine XS.ifYes X0.here hx rfl (pc0 := 1) (pc' := 8) rfl (hb hby d1_1) rfl ((if0 _ _).trans (feq (by decide : ¬ ((3 : Int32) = (0 : Int32)))).2) (by decide) (by decide) ?_
    show Steps p.tables e below (s₁.setTop (mkF m 8 #[.val (.int (3 : Int32))] [])) _
    refine XS.iloadN X0.here hx rfl (hb hby d1_8) rfl ?_
    show Steps p.tables e below (s₁.setTop (mkF m 9 #[.val (.int (3 : Int32))] [(.int (3 : Int32))])) _
    refine XS.iconst X0.here hx rfl (hb hby d1_9) ?_
    show Steps p.tables e below (s₁.setTop (mkF m 10 #[.val (.int (3 : Int32))] [(.int (1 : Int32)), (.int (3 : Int32))])) _
    refine XS.icmpYes X0.here hx rfl (pc0 := 10) (pc' := 17) rfl (hb hby d1_10) rfl (feq (by decide : ¬ ((3 : Int32) = (1 : Int32)))).2 (by decide) (by decide) ?_
    show Steps p.tables e below (s₁.setTop (mkF m 17 #[.val (.int (3 : Int32))] [])) _
    refine XS.iloadN X0.here hx rfl (hb hby d1_17) rfl ?_
    show Steps p.tables e below (s₁.setTop (mkF m 18 #[.val (.int (3 : Int32))] [(.int (3 : Int32))])) _
    refine XS.iconst X0.here hx rfl (hb hby d1_18) ?_
    show Steps p.tables e below (s₁.setTop (mkF m 19 #[.val (.int (3 : Int32))] [(.int (2 : Int32)), (.int (3 : Int32))])) _
    refine XS.icmpYes X0.here hx rfl (pc0 := 19) (pc' := 26) rfl (hb hby d1_19) rfl (feq (by decide : ¬ ((3 : Int32) = (2 : Int32)))).2 (by decide) (by decide) ?_
    show Steps p.tables e below (s₁.setTop (mkF m 26 #[.val (.int (3 : Int32))] [])) _
    refine XS.iloadN X0.here hx rfl (hb hby d1_26) rfl ?_
    show Steps p.tables e below (s₁.setTop (mkF m 27 #[.val (.int (3 : Int32))] [(.int (3 : Int32))])) _
    refine XS.iconst X0.here hx rfl (hb hby d1_27) ?_
    show Steps p.tables e below (s₁.setTop (mkF m 28 #[.val (.int (3 : Int32))] [(.int (3 : Int32)), (.int (3 : Int32))])) _
    refine XS.icmpNo X0.here hx rfl (hb hby d1_28) rfl (teq (rfl : (3 : Int32) = (3 : Int32))).2 ?_
    exact k
  obtain ⟨T14, X14, e14, st14⟩ := getS2 X0 hx hZ hown (host := "") (Or.inl (hw _ (List.mem_of_getElem? (i := 14) rfl))) Via.refl e0 P0 (g := (mkF m 31 #[.val (.int (3 : Int32))] [])) rfl (hb hby d1_31)
  refine own_go st14 ?_
  obtain ⟨fs, hr, hrun, hended, hW, hsame⟩ := X14.leave (v := some (.ref s_Axis_DESCENDANT)) (fun h => by rw [Bd.returns] at h; cases h)
  refine ⟨_, _, ?_, hrun, hended, _, _, rfl, ?_, ⟨_, rfl⟩, hW, hsame.mono (by decide) (by decide)⟩
  · show Steps p.tables e below (T14.setTop (mkF m 34 #[.val (.int (3 : Int32))] [(.ref s_Axis_DESCENDANT)])) _
    exact retOut X14 hx Bd.returns rfl (Or.inr (Or.inr (Or.inr (Or.inr ⟨rfl, rfl, rfl⟩)))) (hb hby d1_34) hr
  · show Qrm1_3 Z s_Axis_DESCENDANT h0 n0 _ T14.heap _
    rw [e14]
    exact ⟨rfl, N0, rfl⟩
def Qrm1_4 (Z : State) (s_Axis_DESCENDANT_OR_SELF : Addr) (h0 : Heap) (n0 : Nat) (v : Option Value) (h : Heap) (L : List Loc) : Prop := v = some (.ref s_Axis_DESCENDANT_OR_SELF) ∧ Fr n0 L ∧ h = h0
theorem efrm1_4 (m : MethodId)  : entryFrame m #[(.int (4 : Int32))] 1 = mkF m 0 #[.val (.int (4 : Int32))] [] := by first | (simp [entryFrame, mkF, argsToLocals, Value.category]; done) | rfl
set_option maxRecDepth 65536 in
set_option maxHeartbeats 40000000 in
theorem rm1_4 (l : Launch) (Z : State) (a0 : Array Value) (hw : ∀ d ∈ tables_1, d.before a0 Z = true) (ws : List Jvm.Cond) (s_Axis_DESCENDANT_OR_SELF : Addr) (h0 : Heap) (n0 : Nat) (Z0 : n0 ≤ h0.size) (P0 : Sta Z h0 "com/example/decider/decider/library/xpath/Axis" "DESCENDANT_OR_SELF" "Lcom/example/decider/decider/library/xpath/Axis;" (.ref s_Axis_DESCENDANT_OR_SELF)) :
    MetFree l (⟨"com/example/decider/decider/library/xpath/AxisLeadsToOneNodePinLaw", "pick", "(I)Lcom/example/decider/decider/library/xpath/Axis;"⟩ : MethodName) (head1 (Jvm.Cond.code (⟨"com/example/decider/decider/library/xpath/AxisLeadsToOneNodePinLaw", "pick", "(I)Lcom/example/decider/decider/library/xpath/Axis;"⟩ : MethodName) method_3_code 1 (some (.object "com/example/decider/decider/library/xpath/Axis")) :: ws) ({ frames := 0, cells := 0, slots := 0, locals := 0 } : Room)) (fun a U => a = #[(.int (4 : Int32))] ∧ Z.Warmed39 U.vm ∧ U.heap = h0) (fun _ _ _ _ _ => True) (fun _ U o U' => ∃ v L, o = .returned v ∧ Qrm1_4 Z s_Axis_DESCENDANT_OR_SELF h0 n0 v U'.heap L ∧ FrameEnd U o U' L ({ frames := 0, cells := 0, slots := 0, locals := 0 } : Room).cells ({ frames := 0, cells := 0, slots := 0, locals := 0 } : Room).slots) := by
  refine MetFree.of_bodySF (plainFor_of_name pn_0) hisR ?_
  intro p e s m args below meth c s₁ Bd hml0 hP hK
  obtain ⟨rfl, hZ, hh⟩ := hP
  have hx := Bd.exec
  have hby := Bd.bytes
  have hml : c.maxLocals = 1 := hml0
  have hown : s.vm.findClass "com/example/decider/decider/library/xpath/AxisLeadsToOneNodePinLaw" = some m.cls := findClass_of_methodNamed Bd.named
  have hnm := (name_of_methodNamed Bd.named Bd.method).1
  have X0 : Stand p l e ({ frames := 0, cells := 0, slots := 0, locals := 0 } : Room) s m #[(.int (4 : Int32))] below meth c s₁ [] 0 0 := Stand.of_body Bd
  have e0 : s₁.heap = h0 := by rw [← hh, Bd.state]; rfl
  have N0 := Fr.nil n0
  have K0 : Keep h0 h0 [] := Keep.refl h0 _
  refine own_go (B := s₁.setTop (mkF m 0 #[.val (.int (4 : Int32))] [])) (fun t k => castTop (efrm1_4 m ) k) ?_
  refine own_go (A := s₁.setTop (mkF m 0 #[.val (.int (4 : Int32))] [])) (B := s₁.setTop (mkF m 40 #[.val (.int (4 : Int32))] [])) (fun t k => ?_) ?_
  · show Steps p.tables e below (s₁.setTop (mkF m 0 #[.val (.int (4 : Int32))] [])) _
    refine XS.iloadN X0.here hx rfl (hb hby d1_0) rfl ?_
    show Steps p.tables e below (s₁.setTop (mkF m 1 #[.val (.int (4 : Int32))] [(.int (4 : Int32))])) _
    refine XS.ifYes X0.here hx rfl (pc0 := 1) (pc' := 8) rfl (hb hby d1_1) rfl ((if0 _ _).trans (feq (by decide : ¬ ((4 : Int32) = (0 : Int32)))).2) (by decide) (by decide) ?_
    show Steps p.tables e below (s₁.setTop (mkF m 8 #[.val (.int (4 : Int32))] [])) _
    refine XS.iloadN X0.here hx rfl (hb hby d1_8) rfl ?_
    show Steps p.tables e below (s₁.setTop (mkF m 9 #[.val (.int (4 : Int32))] [(.int (4 : Int32))])) _
    refine XS.iconst X0.here hx rfl (hb hby d1_9) ?_
    show Steps p.tables e below (s₁.setTop (mkF m 10 #[.val (.int (4 : Int32))] [(.int (1 : Int32)), (.int (4 : Int32))])) _
    refine XS.icmpYes X0.here hx rfl (pc0 := 10) (pc' := 17) rfl (hb hby d1_10) rfl (feq (by decide : ¬ ((4 : Int32) = (1 : Int32)))).2 (by decide) (by decide) ?_
    show Steps p.tables e below (s₁.setTop (mkF m 17 #[.val (.int (4 : Int32))] [])) _
    refine XS.iloadN X0.here hx rfl (hb hby d1_17) rfl ?_
    show Steps p.tables e below (s₁.setTop (mkF m 18 #[.val (.int (4 : Int32))] [(.int (4 : Int32))])) _
    refine XS.iconst X0.here hx rfl (hb hby d1_18) ?_
    show Steps p.tables e below (s₁.setTop (mkF m 19 #[.val (.int (4 : Int32))] [(.int (2 : Int32)), (.int (4 : Int32))])) _
    refine XS.icmpYes X0.here hx rfl (pc0 := 19) (pc' := 26) rfl (hb hby d1_19) rfl (feq (by decide : ¬ ((4 : Int32) = (2 : Int32)))).2 (by decide) (by decide) ?_
    show Steps p.tables e below (s₁.setTop (mkF m 26 #[.val (.int (4 : Int32))] [])) _
    refine XS.iloadN X0.here hx rfl (hb hby d1_26) rfl ?_
    show Steps p.tables e below (s₁.setTop (mkF m 27 #[.val (.int (4 : Int32))] [(.int (4 : Int32))])) _
    refine XS.iconst X0.here hx rfl (hb hby d1_27) ?_
    show Steps p.tables e below (s₁.setTop (mkF m 28 #[.val (.int (4 : Int32))] [(.int (3 : Int32)), (.int (4 : Int32))])) _
    refine XS.icmpYes X0.here hx rfl (pc0 := 28) (pc' := 35) rfl (hb hby d1_28) rfl (feq (by decide : ¬ ((4 : Int32) = (3 : Int32)))).2 (by decide) (by decide) ?_
    show Steps p.tables e below (s₁.setTop (mkF m 35 #[.val (.int (4 : Int32))] [])) _
    refine XS.iloadN X0.here hx rfl (hb hby d1_35) rfl ?_
    show Steps p.tables e below (s₁.setTop (mkF m 36 #[.val (.int (4 : Int32))] [(.int (4 : Int32))])) _
    refine XS.iconst X0.here hx rfl (hb hby d1_36) ?_
    show Steps p.tables e below (s₁.setTop (mkF m 37 #[.val (.int (4 : Int32))] [(.int (4 : Int32)), (.int (4 : Int32))])) _
    refine XS.icmpNo X0.here hx rfl (hb hby d1_37) rfl (teq (rfl : (4 : Int32) = (4 : Int32))).2 ?_
    exact k
  obtain ⟨T20, X20, e20, st20⟩ := getS2 X0 hx hZ hown (host := "") (Or.inl (hw _ (List.mem_of_getElem? (i := 33) rfl))) Via.refl e0 P0 (g := (mkF m 40 #[.val (.int (4 : Int32))] [])) rfl (hb hby d1_40)
  refine own_go st20 ?_
  obtain ⟨fs, hr, hrun, hended, hW, hsame⟩ := X20.leave (v := some (.ref s_Axis_DESCENDANT_OR_SELF)) (fun h => by rw [Bd.returns] at h; cases h)
  refine ⟨_, _, ?_, hrun, hended, _, _, rfl, ?_, ⟨_, rfl⟩, hW, hsame.mono (by decide) (by decide)⟩
  · show Steps p.tables e below (T20.setTop (mkF m 43 #[.val (.int (4 : Int32))] [(.ref s_Axis_DESCENDANT_OR_SELF)])) _
    exact retOut X20 hx Bd.returns rfl (Or.inr (Or.inr (Or.inr (Or.inr ⟨rfl, rfl, rfl⟩)))) (hb hby d1_43) hr
  · show Qrm1_4 Z s_Axis_DESCENDANT_OR_SELF h0 n0 _ T20.heap _
    rw [e20]
    exact ⟨rfl, N0, rfl⟩
def Qrm1_5 (Z : State) (s_Axis_ANCESTOR : Addr) (h0 : Heap) (n0 : Nat) (v : Option Value) (h : Heap) (L : List Loc) : Prop := v = some (.ref s_Axis_ANCESTOR) ∧ Fr n0 L ∧ h = h0
theorem efrm1_5 (m : MethodId)  : entryFrame m #[(.int (5 : Int32))] 1 = mkF m 0 #[.val (.int (5 : Int32))] [] := by first | (simp [entryFrame, mkF, argsToLocals, Value.category]; done) | rfl
set_option maxRecDepth 65536 in
set_option maxHeartbeats 40000000 in
theorem rm1_5 (l : Launch) (Z : State) (a0 : Array Value) (hw : ∀ d ∈ tables_1, d.before a0 Z = true) (ws : List Jvm.Cond) (s_Axis_ANCESTOR : Addr) (h0 : Heap) (n0 : Nat) (Z0 : n0 ≤ h0.size) (P0 : Sta Z h0 "com/example/decider/decider/library/xpath/Axis" "ANCESTOR" "Lcom/example/decider/decider/library/xpath/Axis;" (.ref s_Axis_ANCESTOR)) :
    MetFree l (⟨"com/example/decider/decider/library/xpath/AxisLeadsToOneNodePinLaw", "pick", "(I)Lcom/example/decider/decider/library/xpath/Axis;"⟩ : MethodName) (head1 (Jvm.Cond.code (⟨"com/example/decider/decider/library/xpath/AxisLeadsToOneNodePinLaw", "pick", "(I)Lcom/example/decider/decider/library/xpath/Axis;"⟩ : MethodName) method_3_code 1 (some (.object "com/example/decider/decider/library/xpath/Axis")) :: ws) ({ frames := 0, cells := 0, slots := 0, locals := 0 } : Room)) (fun a U => a = #[(.int (5 : Int32))] ∧ Z.Warmed39 U.vm ∧ U.heap = h0) (fun _ _ _ _ _ => True) (fun _ U o U' => ∃ v L, o = .returned v ∧ Qrm1_5 Z s_Axis_ANCESTOR h0 n0 v U'.heap L ∧ FrameEnd U o U' L ({ frames := 0, cells := 0, slots := 0, locals := 0 } : Room).cells ({ frames := 0, cells := 0, slots := 0, locals := 0 } : Room).slots) := by
  refine MetFree.of_bodySF (plainFor_of_name pn_0) hisR ?_
  intro p e s m args below meth c s₁ Bd hml0 hP hK
  obtain ⟨rfl, hZ, hh⟩ := hP
  have hx := Bd.exec
  have hby := Bd.bytes
  have hml : c.maxLocals = 1 := hml0
  have hown : s.vm.findClass "com/example/decider/decider/library/xpath/AxisLeadsToOneNodePinLaw" = some m.cls := findClass_of_methodNamed Bd.named
  have hnm := (name_of_methodNamed Bd.named Bd.method).1
  have X0 : Stand p l e ({ frames := 0, cells := 0, slots := 0, locals := 0 } : Room) s m #[(.int (5 : Int32))] below meth c s₁ [] 0 0 := Stand.of_body Bd
  have e0 : s₁.heap = h0 := by rw [← hh, Bd.state]; rfl
  have N0 := Fr.nil n0
  have K0 : Keep h0 h0 [] := Keep.refl h0 _
  refine own_go (B := s₁.setTop (mkF m 0 #[.val (.int (5 : Int32))] [])) (fun t k => castTop (efrm1_5 m ) k) ?_
  refine own_go (A := s₁.setTop (mkF m 0 #[.val (.int (5 : Int32))] [])) (B := s₁.setTop (mkF m 49 #[.val (.int (5 : Int32))] [])) (fun t k => ?_) ?_
  · show Steps p.tables e below (s₁.setTop (mkF m 0 #[.val (.int (5 : Int32))] [])) _
    refine XS.iloadN X0.here hx rfl (hb hby d1_0) rfl ?_
    show Steps p.tables e below (s₁.setTop (mkF m 1 #[.val (.int (5 : Int32))] [(.int (5 : Int32))])) _
    refine XS.ifYes X0.here hx rfl (pc0 := 1) (pc' := 8) rfl (hb hby d1_1) rfl ((if0 _ _).trans (feq (by decide : ¬ ((5 : Int32) = (0 : Int32)))).2) (by decide) (by decide) ?_
    show Steps p.tables e below (s₁.setTop (mkF m 8 #[.val (.int (5 : Int32))] [])) _
    refine XS.iloadN X0.here hx rfl (hb hby d1_8) rfl ?_
    show Steps p.tables e below (s₁.setTop (mkF m 9 #[.val (.int (5 : Int32))] [(.int (5 : Int32))])) _
    refine XS.iconst X0.here hx rfl (hb hby d1_9) ?_
    show Steps p.tables e below (s₁.setTop (mkF m 10 #[.val (.int (5 : Int32))] [(.int (1 : Int32)), (.int (5 : Int32))])) _
    refine XS.icmpYes X0.here hx rfl (pc0 := 10) (pc' := 17) rfl (hb hby d1_10) rfl (feq (by decide : ¬ ((5 : Int32) = (1 : Int32)))).2 (by decide) (by decide) ?_
    show Steps p.tables e below (s₁.setTop (mkF m 17 #[.val (.int (5 : Int32))] [])) _
    refine XS.iloadN X0.here hx rfl (hb hby d1_17) rfl ?_
    show Steps p.tables e below (s₁.setTop (mkF m 18 #[.val (.int (5 : Int32))] [(.int (5 : Int32))])) _
    refine XS.iconst X0.here hx rfl (hb hby d1_18) ?_
    show Steps p.tables e below (s₁.setTop (mkF m 19 #[.val (.int (5 : Int32))] [(.int (2 : Int32)), (.int (5 : Int32))])) _
    refine XS.icmpYes X0.here hx rfl (pc0 := 19) (pc' := 26) rfl (hb hby d1_19) rfl (feq (by decide : ¬ ((5 : Int32) = (2 : Int32)))).2 (by decide) (by decide) ?_
    show Steps p.tables e below (s₁.setTop (mkF m 26 #[.val (.int (5 : Int32))] [])) _
    refine XS.iloadN X0.here hx rfl (hb hby d1_26) rfl ?_
    show Steps p.tables e below (s₁.setTop (mkF m 27 #[.val (.int (5 : Int32))] [(.int (5 : Int32))])) _
    refine XS.iconst X0.here hx rfl (hb hby d1_27) ?_
    show Steps p.tables e below (s₁.setTop (mkF m 28 #[.val (.int (5 : Int32))] [(.int (3 : Int32)), (.int (5 : Int32))])) _
    refine XS.icmpYes X0.here hx rfl (pc0 := 28) (pc' := 35) rfl (hb hby d1_28) rfl (feq (by decide : ¬ ((5 : Int32) = (3 : Int32)))).2 (by decide) (by decide) ?_
    show Steps p.tables e below (s₁.setTop (mkF m 35 #[.val (.int (5 : Int32))] [])) _
    refine XS.iloadN X0.here hx rfl (hb hby d1_35) rfl ?_
    show Steps p.tables e below (s₁.setTop (mkF m 36 #[.val (.int (5 : Int32))] [(.int (5 : Int32))])) _
    refine XS.iconst X0.here hx rfl (hb hby d1_36) ?_
    show Steps p.tables e below (s₁.setTop (mkF m 37 #[.val (.int (5 : Int32))] [(.int (4 : Int32)), (.int (5 : Int32))])) _
    refine XS.icmpYes X0.here hx rfl (pc0 := 37) (pc' := 44) rfl (hb hby d1_37) rfl (feq (by decide : ¬ ((5 : Int32) = (4 : Int32)))).2 (by decide) (by decide) ?_
    show Steps p.tables e below (s₁.setTop (mkF m 44 #[.val (.int (5 : Int32))] [])) _
    refine XS.iloadN X0.here hx rfl (hb hby d1_44) rfl ?_
    show Steps p.tables e below (s₁.setTop (mkF m 45 #[.val (.int (5 : Int32))] [(.int (5 : Int32))])) _
    refine XS.iconst X0.here hx rfl (hb hby d1_45) ?_
    show Steps p.tables e below (s₁.setTop (mkF m 46 #[.val (.int (5 : Int32))] [(.int (5 : Int32)), (.int (5 : Int32))])) _
    refine XS.icmpNo X0.here hx rfl (hb hby d1_46) rfl (teq (rfl : (5 : Int32) = (5 : Int32))).2 ?_
    exact k
  obtain ⟨T27, X27, e27, st27⟩ := getS2 X0 hx hZ hown (host := "") (Or.inl (hw _ (List.mem_of_getElem? (i := 29) rfl))) Via.refl e0 P0 (g := (mkF m 49 #[.val (.int (5 : Int32))] [])) rfl (hb hby d1_49)
  refine own_go st27 ?_
  obtain ⟨fs, hr, hrun, hended, hW, hsame⟩ := X27.leave (v := some (.ref s_Axis_ANCESTOR)) (fun h => by rw [Bd.returns] at h; cases h)
  refine ⟨_, _, ?_, hrun, hended, _, _, rfl, ?_, ⟨_, rfl⟩, hW, hsame.mono (by decide) (by decide)⟩
  · show Steps p.tables e below (T27.setTop (mkF m 52 #[.val (.int (5 : Int32))] [(.ref s_Axis_ANCESTOR)])) _
    exact retOut X27 hx Bd.returns rfl (Or.inr (Or.inr (Or.inr (Or.inr ⟨rfl, rfl, rfl⟩)))) (hb hby d1_52) hr
  · show Qrm1_5 Z s_Axis_ANCESTOR h0 n0 _ T27.heap _
    rw [e27]
    exact ⟨rfl, N0, rfl⟩
def Qrm1_6 (Z : State) (s_Axis_ANCESTOR_OR_SELF : Addr) (h0 : Heap) (n0 : Nat) (v : Option Value) (h : Heap) (L : List Loc) : Prop := v = some (.ref s_Axis_ANCESTOR_OR_SELF) ∧ Fr n0 L ∧ h = h0
theorem efrm1_6 (m : MethodId)  : entryFrame m #[(.int (6 : Int32))] 1 = mkF m 0 #[.val (.int (6 : Int32))] [] := by first | (simp [entryFrame, mkF, argsToLocals, Value.category]; done) | rfl
set_option maxRecDepth 65536 in
set_option maxHeartbeats 40000000 in
theorem rm1_6 (l : Launch) (Z : State) (a0 : Array Value) (hw : ∀ d ∈ tables_1, d.before a0 Z = true) (ws : List Jvm.Cond) (s_Axis_ANCESTOR_OR_SELF : Addr) (h0 : Heap) (n0 : Nat) (Z0 : n0 ≤ h0.size) (P0 : Sta Z h0 "com/example/decider/decider/library/xpath/Axis" "ANCESTOR_OR_SELF" "Lcom/example/decider/decider/library/xpath/Axis;" (.ref s_Axis_ANCESTOR_OR_SELF)) :
    MetFree l (⟨"com/example/decider/decider/library/xpath/AxisLeadsToOneNodePinLaw", "pick", "(I)Lcom/example/decider/decider/library/xpath/Axis;"⟩ : MethodName) (head1 (Jvm.Cond.code (⟨"com/example/decider/decider/library/xpath/AxisLeadsToOneNodePinLaw", "pick", "(I)Lcom/example/decider/decider/library/xpath/Axis;"⟩ : MethodName) method_3_code 1 (some (.object "com/example/decider/decider/library/xpath/Axis")) :: ws) ({ frames := 0, cells := 0, slots := 0, locals := 0 } : Room)) (fun a U => a = #[(.int (6 : Int32))] ∧ Z.Warmed39 U.vm ∧ U.heap = h0) (fun _ _ _ _ _ => True) (fun _ U o U' => ∃ v L, o = .returned v ∧ Qrm1_6 Z s_Axis_ANCESTOR_OR_SELF h0 n0 v U'.heap L ∧ FrameEnd U o U' L ({ frames := 0, cells := 0, slots := 0, locals := 0 } : Room).cells ({ frames := 0, cells := 0, slots := 0, locals := 0 } : Room).slots) := by
  refine MetFree.of_bodySF (plainFor_of_name pn_0) hisR ?_
  intro p e s m args below meth c s₁ Bd hml0 hP hK
  obtain ⟨rfl, hZ, hh⟩ := hP
  have hx := Bd.exec
  have hby := Bd.bytes
  have hml : c.maxLocals = 1 := hml0
  have hown : s.vm.findClass "com/example/decider/decider/library/xpath/AxisLeadsToOneNodePinLaw" = some m.cls := findClass_of_methodNamed Bd.named
  have hnm := (name_of_methodNamed Bd.named Bd.method).1
  have X0 : Stand p l e ({ frames := 0, cells := 0, slots := 0, locals := 0 } : Room) s m #[(.int (6 : Int32))] below meth c s₁ [] 0 0 := Stand.of_body Bd
  have e0 : s₁.heap = h0 := by rw [← hh, Bd.state]; rfl
  have N0 := Fr.nil n0
  have K0 : Keep h0 h0 [] := Keep.refl h0 _
  refine own_go (B := s₁.setTop (mkF m 0 #[.val (.int (6 : Int32))] [])) (fun t k => castTop (efrm1_6 m ) k) ?_
  refine own_go (A := s₁.setTop (mkF m 0 #[.val (.int (6 : Int32))] [])) (B := s₁.setTop (mkF m 59 #[.val (.int (6 : Int32))] [])) (fun t k => ?_) ?_
  · show Steps p.tables e below (s₁.setTop (mkF m 0 #[.val (.int (6 : Int32))] [])) _
    refine XS.iloadN X0.here hx rfl (hb hby d1_0) rfl ?_
    show Steps p.tables e below (s₁.setTop (mkF m 1 #[.val (.int (6 : Int32))] [(.int (6 : Int32))])) _
    refine XS.ifYes X0.here hx rfl (pc0 := 1) (pc' := 8) rfl (hb hby d1_1) rfl ((if0 _ _).trans (feq (by decide : ¬ ((6 : Int32) = (0 : Int32)))).2) (by decide) (by decide) ?_
    show Steps p.tables e below (s₁.setTop (mkF m 8 #[.val (.int (6 : Int32))] [])) _
    refine XS.iloadN X0.here hx rfl (hb hby d1_8) rfl ?_
    show Steps p.tables e below (s₁.setTop (mkF m 9 #[.val (.int (6 : Int32))] [(.int (6 : Int32))])) _
    refine XS.iconst X0.here hx rfl (hb hby d1_9) ?_
    show Steps p.tables e below (s₁.setTop (mkF m 10 #[.val (.int (6 : Int32))] [(.int (1 : Int32)), (.int (6 : Int32))])) _
    refine XS.icmpYes X0.here hx rfl (pc0 := 10) (pc' := 17) rfl (hb hby d1_10) rfl (feq (by decide : ¬ ((6 : Int32) = (1 : Int32)))).2 (by decide) (by decide) ?_
    show Steps p.tables e below (s₁.setTop (mkF m 17 #[.val (.int (6 : Int32))] [])) _
    refine XS.iloadN X0.here hx rfl (hb hby d1_17) rfl ?_
    show Steps p.tables e below (s₁.setTop (mkF m 18 #[.val (.int (6 : Int32))] [(.int (6 : Int32))])) _
    refine XS.iconst X0.here hx rfl (hb hby d1_18) ?_
    show Steps p.tables e below (s₁.setTop (mkF m 19 #[.val (.int (6 : Int32))] [(.int (2 : Int32)), (.int (6 : Int32))])) _
    refine XS.icmpYes X0.here hx rfl (pc0 := 19) (pc' := 26) rfl (hb hby d1_19) rfl (feq (by decide : ¬ ((6 : Int32) = (2 : Int32)))).2 (by decide) (by decide) ?_
    show Steps p.tables e below (s₁.setTop (mkF m 26 #[.val (.int (6 : Int32))] [])) _
    refine XS.iloadN X0.here hx rfl (hb hby d1_26) rfl ?_
    show Steps p.tables e below (s₁.setTop (mkF m 27 #[.val (.int (6 : Int32))] [(.int (6 : Int32))])) _
    refine XS.iconst X0.here hx rfl (hb hby d1_27) ?_
    show Steps p.tables e below (s₁.setTop (mkF m 28 #[.val (.int (6 : Int32))] [(.int (3 : Int32)), (.int (6 : Int32))])) _
    refine XS.icmpYes X0.here hx rfl (pc0 := 28) (pc' := 35) rfl (hb hby d1_28) rfl (feq (by decide : ¬ ((6 : Int32) = (3 : Int32)))).2 (by decide) (by decide) ?_
    show Steps p.tables e below (s₁.setTop (mkF m 35 #[.val (.int (6 : Int32))] [])) _
    refine XS.iloadN X0.here hx rfl (hb hby d1_35) rfl ?_
    show Steps p.tables e below (s₁.setTop (mkF m 36 #[.val (.int (6 : Int32))] [(.int (6 : Int32))])) _
    refine XS.iconst X0.here hx rfl (hb hby d1_36) ?_
    show Steps p.tables e below (s₁.setTop (mkF m 37 #[.val (.int (6 : Int32))] [(.int (4 : Int32)), (.int (6 : Int32))])) _
    refine XS.icmpYes X0.here hx rfl (pc0 := 37) (pc' := 44) rfl (hb hby d1_37) rfl (feq (by decide : ¬ ((6 : Int32) = (4 : Int32)))).2 (by decide) (by decide) ?_
    show Steps p.tables e below (s₁.setTop (mkF m 44 #[.val (.int (6 : Int32))] [])) _
    refine XS.iloadN X0.here hx rfl (hb hby d1_44) rfl ?_
    show Steps p.tables e below (s₁.setTop (mkF m 45 #[.val (.int (6 : Int32))] [(.int (6 : Int32))])) _
    refine XS.iconst X0.here hx rfl (hb hby d1_45) ?_
    show Steps p.tables e below (s₁.setTop (mkF m 46 #[.val (.int (6 : Int32))] [(.int (5 : Int32)), (.int (6 : Int32))])) _
    refine XS.icmpYes X0.here hx rfl (pc0 := 46) (pc' := 53) rfl (hb hby d1_46) rfl (feq (by decide : ¬ ((6 : Int32) = (5 : Int32)))).2 (by decide) (by decide) ?_
    show Steps p.tables e below (s₁.setTop (mkF m 53 #[.val (.int (6 : Int32))] [])) _
    refine XS.iloadN X0.here hx rfl (hb hby d1_53) rfl ?_
    show Steps p.tables e below (s₁.setTop (mkF m 54 #[.val (.int (6 : Int32))] [(.int (6 : Int32))])) _
    refine XS.bipush X0.here hx rfl (hb hby d1_54) ?_
    show Steps p.tables e below (s₁.setTop (mkF m 56 #[.val (.int (6 : Int32))] [(.int (6 : Int32)), (.int (6 : Int32))])) _
    refine XS.icmpNo X0.here hx rfl (hb hby d1_56) rfl (teq (rfl : (6 : Int32) = (6 : Int32))).2 ?_
    exact k
  obtain ⟨T35, X35, e35, st35⟩ := getS2 X0 hx hZ hown (host := "") (Or.inl (hw _ (List.mem_of_getElem? (i := 31) rfl))) Via.refl e0 P0 (g := (mkF m 59 #[.val (.int (6 : Int32))] [])) rfl (hb hby d1_59)
  refine own_go st35 ?_
  obtain ⟨fs, hr, hrun, hended, hW, hsame⟩ := X35.leave (v := some (.ref s_Axis_ANCESTOR_OR_SELF)) (fun h => by rw [Bd.returns] at h; cases h)
  refine ⟨_, _, ?_, hrun, hended, _, _, rfl, ?_, ⟨_, rfl⟩, hW, hsame.mono (by decide) (by decide)⟩
  · show Steps p.tables e below (T35.setTop (mkF m 62 #[.val (.int (6 : Int32))] [(.ref s_Axis_ANCESTOR_OR_SELF)])) _
    exact retOut X35 hx Bd.returns rfl (Or.inr (Or.inr (Or.inr (Or.inr ⟨rfl, rfl, rfl⟩)))) (hb hby d1_62) hr
  · show Qrm1_6 Z s_Axis_ANCESTOR_OR_SELF h0 n0 _ T35.heap _
    rw [e35]
    exact ⟨rfl, N0, rfl⟩
def Qrm1_7 (Z : State) (s_Axis_FOLLOWING_SIBLING : Addr) (h0 : Heap) (n0 : Nat) (v : Option Value) (h : Heap) (L : List Loc) : Prop := v = some (.ref s_Axis_FOLLOWING_SIBLING) ∧ Fr n0 L ∧ h = h0
theorem efrm1_7 (m : MethodId)  : entryFrame m #[(.int (7 : Int32))] 1 = mkF m 0 #[.val (.int (7 : Int32))] [] := by first | (simp [entryFrame, mkF, argsToLocals, Value.category]; done) | rfl
set_option maxRecDepth 65536 in
set_option maxHeartbeats 40000000 in
theorem rm1_7 (l : Launch) (Z : State) (a0 : Array Value) (hw : ∀ d ∈ tables_1, d.before a0 Z = true) (ws : List Jvm.Cond) (s_Axis_FOLLOWING_SIBLING : Addr) (h0 : Heap) (n0 : Nat) (Z0 : n0 ≤ h0.size) (P0 : Sta Z h0 "com/example/decider/decider/library/xpath/Axis" "FOLLOWING_SIBLING" "Lcom/example/decider/decider/library/xpath/Axis;" (.ref s_Axis_FOLLOWING_SIBLING)) :
    MetFree l (⟨"com/example/decider/decider/library/xpath/AxisLeadsToOneNodePinLaw", "pick", "(I)Lcom/example/decider/decider/library/xpath/Axis;"⟩ : MethodName) (head1 (Jvm.Cond.code (⟨"com/example/decider/decider/library/xpath/AxisLeadsToOneNodePinLaw", "pick", "(I)Lcom/example/decider/decider/library/xpath/Axis;"⟩ : MethodName) method_3_code 1 (some (.object "com/example/decider/decider/library/xpath/Axis")) :: ws) ({ frames := 0, cells := 0, slots := 0, locals := 0 } : Room)) (fun a U => a = #[(.int (7 : Int32))] ∧ Z.Warmed39 U.vm ∧ U.heap = h0) (fun _ _ _ _ _ => True) (fun _ U o U' => ∃ v L, o = .returned v ∧ Qrm1_7 Z s_Axis_FOLLOWING_SIBLING h0 n0 v U'.heap L ∧ FrameEnd U o U' L ({ frames := 0, cells := 0, slots := 0, locals := 0 } : Room).cells ({ frames := 0, cells := 0, slots := 0, locals := 0 } : Room).slots) := by
  refine MetFree.of_bodySF (plainFor_of_name pn_0) hisR ?_
  intro p e s m args below meth c s₁ Bd hml0 hP hK
  obtain ⟨rfl, hZ, hh⟩ := hP
  have hx := Bd.exec
  have hby := Bd.bytes
  have hml : c.maxLocals = 1 := hml0
  have hown : s.vm.findClass "com/example/decider/decider/library/xpath/AxisLeadsToOneNodePinLaw" = some m.cls := findClass_of_methodNamed Bd.named
  have hnm := (name_of_methodNamed Bd.named Bd.method).1
  have X0 : Stand p l e ({ frames := 0, cells := 0, slots := 0, locals := 0 } : Room) s m #[(.int (7 : Int32))] below meth c s₁ [] 0 0 := Stand.of_body Bd
  have e0 : s₁.heap = h0 := by rw [← hh, Bd.state]; rfl
  have N0 := Fr.nil n0
  have K0 : Keep h0 h0 [] := Keep.refl h0 _
  refine own_go (B := s₁.setTop (mkF m 0 #[.val (.int (7 : Int32))] [])) (fun t k => castTop (efrm1_7 m ) k) ?_
  refine own_go (A := s₁.setTop (mkF m 0 #[.val (.int (7 : Int32))] [])) (B := s₁.setTop (mkF m 69 #[.val (.int (7 : Int32))] [])) (fun t k => ?_) ?_
  · show Steps p.tables e below (s₁.setTop (mkF m 0 #[.val (.int (7 : Int32))] [])) _
    refine XS.iloadN X0.here hx rfl (hb hby d1_0) rfl ?_
    show Steps p.tables e below (s₁.setTop (mkF m 1 #[.val (.int (7 : Int32))] [(.int (7 : Int32))])) _
    refine XS.ifYes X0.here hx rfl (pc0 := 1) (pc' := 8) rfl (hb hby d1_1) rfl ((if0 _ _).trans (feq (by decide : ¬ ((7 : Int32) = (0 : Int32)))).2) (by decide) (by decide) ?_
    show Steps p.tables e below (s₁.setTop (mkF m 8 #[.val (.int (7 : Int32))] [])) _
    refine XS.iloadN X0.here hx rfl (hb hby d1_8) rfl ?_
    show Steps p.tables e below (s₁.setTop (mkF m 9 #[.val (.int (7 : Int32))] [(.int (7 : Int32))])) _
    refine XS.iconst X0.here hx rfl (hb hby d1_9) ?_
    show Steps p.tables e below (s₁.setTop (mkF m 10 #[.val (.int (7 : Int32))] [(.int (1 : Int32)), (.int (7 : Int32))])) _
    refine XS.icmpYes X0.here hx rfl (pc0 := 10) (pc' := 17) rfl (hb hby d1_10) rfl (feq (by decide : ¬ ((7 : Int32) = (1 : Int32)))).2 (by decide) (by decide) ?_
    show Steps p.tables e below (s₁.setTop (mkF m 17 #[.val (.int (7 : Int32))] [])) _
    refine XS.iloadN X0.here hx rfl (hb hby d1_17) rfl ?_
    show Steps p.tables e below (s₁.setTop (mkF m 18 #[.val (.int (7 : Int32))] [(.int (7 : Int32))])) _
    refine XS.iconst X0.here hx rfl (hb hby d1_18) ?_
    show Steps p.tables e below (s₁.setTop (mkF m 19 #[.val (.int (7 : Int32))] [(.int (2 : Int32)), (.int (7 : Int32))])) _
    refine XS.icmpYes X0.here hx rfl (pc0 := 19) (pc' := 26) rfl (hb hby d1_19) rfl (feq (by decide : ¬ ((7 : Int32) = (2 : Int32)))).2 (by decide) (by decide) ?_
    show Steps p.tables e below (s₁.setTop (mkF m 26 #[.val (.int (7 : Int32))] [])) _
    refine XS.iloadN X0.here hx rfl (hb hby d1_26) rfl ?_
    show Steps p.tables e below (s₁.setTop (mkF m 27 #[.val (.int (7 : Int32))] [(.int (7 : Int32))])) _
    refine XS.iconst X0.here hx rfl (hb hby d1_27) ?_
    show Steps p.tables e below (s₁.setTop (mkF m 28 #[.val (.int (7 : Int32))] [(.int (3 : Int32)), (.int (7 : Int32))])) _
    refine XS.icmpYes X0.here hx rfl (pc0 := 28) (pc' := 35) rfl (hb hby d1_28) rfl (feq (by decide : ¬ ((7 : Int32) = (3 : Int32)))).2 (by decide) (by decide) ?_
    show Steps p.tables e below (s₁.setTop (mkF m 35 #[.val (.int (7 : Int32))] [])) _
    refine XS.iloadN X0.here hx rfl (hb hby d1_35) rfl ?_
    show Steps p.tables e below (s₁.setTop (mkF m 36 #[.val (.int (7 : Int32))] [(.int (7 : Int32))])) _
    refine XS.iconst X0.here hx rfl (hb hby d1_36) ?_
    show Steps p.tables e below (s₁.setTop (mkF m 37 #[.val (.int (7 : Int32))] [(.int (4 : Int32)), (.int (7 : Int32))])) _
    refine XS.icmpYes X0.here hx rfl (pc0 := 37) (pc' := 44) rfl (hb hby d1_37) rfl (feq (by decide : ¬ ((7 : Int32) = (4 : Int32)))).2 (by decide) (by decide) ?_
    show Steps p.tables e below (s₁.setTop (mkF m 44 #[.val (.int (7 : Int32))] [])) _
    refine XS.iloadN X0.here hx rfl (hb hby d1_44) rfl ?_
    show Steps p.tables e below (s₁.setTop (mkF m 45 #[.val (.int (7 : Int32))] [(.int (7 : Int32))])) _
    refine XS.iconst X0.here hx rfl (hb hby d1_45) ?_
    show Steps p.tables e below (s₁.setTop (mkF m 46 #[.val (.int (7 : Int32))] [(.int (5 : Int32)), (.int (7 : Int32))])) _
    refine XS.icmpYes X0.here hx rfl (pc0 := 46) (pc' := 53) rfl (hb hby d1_46) rfl (feq (by decide : ¬ ((7 : Int32) = (5 : Int32)))).2 (by decide) (by decide) ?_
    show Steps p.tables e below (s₁.setTop (mkF m 53 #[.val (.int (7 : Int32))] [])) _
    refine XS.iloadN X0.here hx rfl (hb hby d1_53) rfl ?_
    show Steps p.tables e below (s₁.setTop (mkF m 54 #[.val (.int (7 : Int32))] [(.int (7 : Int32))])) _
    refine XS.bipush X0.here hx rfl (hb hby d1_54) ?_
    show Steps p.tables e below (s₁.setTop (mkF m 56 #[.val (.int (7 : Int32))] [(.int (6 : Int32)), (.int (7 : Int32))])) _
    refine XS.icmpYes X0.here hx rfl (pc0 := 56) (pc' := 63) rfl (hb hby d1_56) rfl (feq (by decide : ¬ ((7 : Int32) = (6 : Int32)))).2 (by decide) (by decide) ?_
    show Steps p.tables e below (s₁.setTop (mkF m 63 #[.val (.int (7 : Int32))] [])) _
    refine XS.iloadN X0.here hx rfl (hb hby d1_63) rfl ?_
    show Steps p.tables e below (s₁.setTop (mkF m 64 #[.val (.int (7 : Int32))] [(.int (7 : Int32))])) _
    refine XS.bipush X0.here hx rfl (hb hby d1_64) ?_
    show Steps p.tables e below (s₁.setTop (mkF m 66 #[.val (.int (7 : Int32))] [(.int (7 : Int32)), (.int (7 : Int32))])) _
    refine XS.icmpNo X0.here hx rfl (hb hby d1_66) rfl (teq (rfl : (7 : Int32) = (7 : Int32))).2 ?_
    exact k
  obtain ⟨T44, X44, e44, st44⟩ := getS2 X0 hx hZ hown (host := "") (Or.inl (hw _ (List.mem_of_getElem? (i := 18) rfl))) Via.refl e0 P0 (g := (mkF m 69 #[.val (.int (7 : Int32))] [])) rfl (hb hby d1_69)
  refine own_go st44 ?_
  obtain ⟨fs, hr, hrun, hended, hW, hsame⟩ := X44.leave (v := some (.ref s_Axis_FOLLOWING_SIBLING)) (fun h => by rw [Bd.returns] at h; cases h)
  refine ⟨_, _, ?_, hrun, hended, _, _, rfl, ?_, ⟨_, rfl⟩, hW, hsame.mono (by decide) (by decide)⟩
  · show Steps p.tables e below (T44.setTop (mkF m 72 #[.val (.int (7 : Int32))] [(.ref s_Axis_FOLLOWING_SIBLING)])) _
    exact retOut X44 hx Bd.returns rfl (Or.inr (Or.inr (Or.inr (Or.inr ⟨rfl, rfl, rfl⟩)))) (hb hby d1_72) hr
  · show Qrm1_7 Z s_Axis_FOLLOWING_SIBLING h0 n0 _ T44.heap _
    rw [e44]
    exact ⟨rfl, N0, rfl⟩
def Qrm1_8 (Z : State) (s_Axis_PRECEDING_SIBLING : Addr) (h0 : Heap) (n0 : Nat) (v : Option Value) (h : Heap) (L : List Loc) : Prop := v = some (.ref s_Axis_PRECEDING_SIBLING) ∧ Fr n0 L ∧ h = h0
theorem efrm1_8 (m : MethodId)  : entryFrame m #[(.int (8 : Int32))] 1 = mkF m 0 #[.val (.int (8 : Int32))] [] := by first | (simp [entryFrame, mkF, argsToLocals, Value.category]; done) | rfl
set_option maxRecDepth 65536 in
set_option maxHeartbeats 40000000 in
theorem rm1_8 (l : Launch) (Z : State) (a0 : Array Value) (hw : ∀ d ∈ tables_1, d.before a0 Z = true) (ws : List Jvm.Cond) (s_Axis_PRECEDING_SIBLING : Addr) (h0 : Heap) (n0 : Nat) (Z0 : n0 ≤ h0.size) (P0 : Sta Z h0 "com/example/decider/decider/library/xpath/Axis" "PRECEDING_SIBLING" "Lcom/example/decider/decider/library/xpath/Axis;" (.ref s_Axis_PRECEDING_SIBLING)) :
    MetFree l (⟨"com/example/decider/decider/library/xpath/AxisLeadsToOneNodePinLaw", "pick", "(I)Lcom/example/decider/decider/library/xpath/Axis;"⟩ : MethodName) (head1 (Jvm.Cond.code (⟨"com/example/decider/decider/library/xpath/AxisLeadsToOneNodePinLaw", "pick", "(I)Lcom/example/decider/decider/library/xpath/Axis;"⟩ : MethodName) method_3_code 1 (some (.object "com/example/decider/decider/library/xpath/Axis")) :: ws) ({ frames := 0, cells := 0, slots := 0, locals := 0 } : Room)) (fun a U => a = #[(.int (8 : Int32))] ∧ Z.Warmed39 U.vm ∧ U.heap = h0) (fun _ _ _ _ _ => True) (fun _ U o U' => ∃ v L, o = .returned v ∧ Qrm1_8 Z s_Axis_PRECEDING_SIBLING h0 n0 v U'.heap L ∧ FrameEnd U o U' L ({ frames := 0, cells := 0, slots := 0, locals := 0 } : Room).cells ({ frames := 0, cells := 0, slots := 0, locals := 0 } : Room).slots) := by
  refine MetFree.of_bodySF (plainFor_of_name pn_0) hisR ?_
  intro p e s m args below meth c s₁ Bd hml0 hP hK
  obtain ⟨rfl, hZ, hh⟩ := hP
  have hx := Bd.exec
  have hby := Bd.bytes
  have hml : c.maxLocals = 1 := hml0
  have hown : s.vm.findClass "com/example/decider/decider/library/xpath/AxisLeadsToOneNodePinLaw" = some m.cls := findClass_of_methodNamed Bd.named
  have hnm := (name_of_methodNamed Bd.named Bd.method).1
  have X0 : Stand p l e ({ frames := 0, cells := 0, slots := 0, locals := 0 } : Room) s m #[(.int (8 : Int32))] below meth c s₁ [] 0 0 := Stand.of_body Bd
  have e0 : s₁.heap = h0 := by rw [← hh, Bd.state]; rfl
  have N0 := Fr.nil n0
  have K0 : Keep h0 h0 [] := Keep.refl h0 _
  refine own_go (B := s₁.setTop (mkF m 0 #[.val (.int (8 : Int32))] [])) (fun t k => castTop (efrm1_8 m ) k) ?_
  refine own_go (A := s₁.setTop (mkF m 0 #[.val (.int (8 : Int32))] [])) (B := s₁.setTop (mkF m 79 #[.val (.int (8 : Int32))] [])) (fun t k => ?_) ?_
  · show Steps p.tables e below (s₁.setTop (mkF m 0 #[.val (.int (8 : Int32))] [])) _
    refine XS.iloadN X0.here hx rfl (hb hby d1_0) rfl ?_
    show Steps p.tables e below (s₁.setTop (mkF m 1 #[.val (.int (8 : Int32))] [(.int (8 : Int32))])) _
    refine XS.ifYes X0.here hx rfl (pc0 := 1) (pc' := 8) rfl (hb hby d1_1) rfl ((if0 _ _).trans (feq (by decide : ¬ ((8 : Int32) = (0 : Int32)))).2) (by decide) (by decide) ?_
    show Steps p.tables e below (s₁.setTop (mkF m 8 #[.val (.int (8 : Int32))] [])) _
    refine XS.iloadN X0.here hx rfl (hb hby d1_8) rfl ?_
    show Steps p.tables e below (s₁.setTop (mkF m 9 #[.val (.int (8 : Int32))] [(.int (8 : Int32))])) _
    refine XS.iconst X0.here hx rfl (hb hby d1_9) ?_
    show Steps p.tables e below (s₁.setTop (mkF m 10 #[.val (.int (8 : Int32))] [(.int (1 : Int32)), (.int (8 : Int32))])) _
    refine XS.icmpYes X0.here hx rfl (pc0 := 10) (pc' := 17) rfl (hb hby d1_10) rfl (feq (by decide : ¬ ((8 : Int32) = (1 : Int32)))).2 (by decide) (by decide) ?_
    show Steps p.tables e below (s₁.setTop (mkF m 17 #[.val (.int (8 : Int32))] [])) _
    refine XS.iloadN X0.here hx rfl (hb hby d1_17) rfl ?_
    show Steps p.tables e below (s₁.setTop (mkF m 18 #[.val (.int (8 : Int32))] [(.int (8 : Int32))])) _
    refine XS.iconst X0.here hx rfl (hb hby d1_18) ?_
    show Steps p.tables e below (s₁.setTop (mkF m 19 #[.val (.int (8 : Int32))] [(.int (2 : Int32)), (.int (8 : Int32))])) _
    refine XS.icmpYes X0.here hx rfl (pc0 := 19) (pc' := 26) rfl (hb hby d1_19) rfl (feq (by decide : ¬ ((8 : Int32) = (2 : Int32)))).2 (by decide) (by decide) ?_
    show Steps p.tables e below (s₁.setTop (mkF m 26 #[.val (.int (8 : Int32))] [])) _
    refine XS.iloadN X0.here hx rfl (hb hby d1_26) rfl ?_
    show Steps p.tables e below (s₁.setTop (mkF m 27 #[.val (.int (8 : Int32))] [(.int (8 : Int32))])) _
    refine XS.iconst X0.here hx rfl (hb hby d1_27) ?_
    show Steps p.tables e below (s₁.setTop (mkF m 28 #[.val (.int (8 : Int32))] [(.int (3 : Int32)), (.int (8 : Int32))])) _
    refine XS.icmpYes X0.here hx rfl (pc0 := 28) (pc' := 35) rfl (hb hby d1_28) rfl (feq (by decide : ¬ ((8 : Int32) = (3 : Int32)))).2 (by decide) (by decide) ?_
    show Steps p.tables e below (s₁.setTop (mkF m 35 #[.val (.int (8 : Int32))] [])) _
    refine XS.iloadN X0.here hx rfl (hb hby d1_35) rfl ?_
    show Steps p.tables e below (s₁.setTop (mkF m 36 #[.val (.int (8 : Int32))] [(.int (8 : Int32))])) _
    refine XS.iconst X0.here hx rfl (hb hby d1_36) ?_
    show Steps p.tables e below (s₁.setTop (mkF m 37 #[.val (.int (8 : Int32))] [(.int (4 : Int32)), (.int (8 : Int32))])) _
    refine XS.icmpYes X0.here hx rfl (pc0 := 37) (pc' := 44) rfl (hb hby d1_37) rfl (feq (by decide : ¬ ((8 : Int32) = (4 : Int32)))).2 (by decide) (by decide) ?_
    show Steps p.tables e below (s₁.setTop (mkF m 44 #[.val (.int (8 : Int32))] [])) _
    refine XS.iloadN X0.here hx rfl (hb hby d1_44) rfl ?_
    show Steps p.tables e below (s₁.setTop (mkF m 45 #[.val (.int (8 : Int32))] [(.int (8 : Int32))])) _
    refine XS.iconst X0.here hx rfl (hb hby d1_45) ?_
    show Steps p.tables e below (s₁.setTop (mkF m 46 #[.val (.int (8 : Int32))] [(.int (5 : Int32)), (.int (8 : Int32))])) _
    refine XS.icmpYes X0.here hx rfl (pc0 := 46) (pc' := 53) rfl (hb hby d1_46) rfl (feq (by decide : ¬ ((8 : Int32) = (5 : Int32)))).2 (by decide) (by decide) ?_
    show Steps p.tables e below (s₁.setTop (mkF m 53 #[.val (.int (8 : Int32))] [])) _
    refine XS.iloadN X0.here hx rfl (hb hby d1_53) rfl ?_
    show Steps p.tables e below (s₁.setTop (mkF m 54 #[.val (.int (8 : Int32))] [(.int (8 : Int32))])) _
    refine XS.bipush X0.here hx rfl (hb hby d1_54) ?_
    show Steps p.tables e below (s₁.setTop (mkF m 56 #[.val (.int (8 : Int32))] [(.int (6 : Int32)), (.int (8 : Int32))])) _
    refine XS.icmpYes X0.here hx rfl (pc0 := 56) (pc' := 63) rfl (hb hby d1_56) rfl (feq (by decide : ¬ ((8 : Int32) = (6 : Int32)))).2 (by decide) (by decide) ?_
    show Steps p.tables e below (s₁.setTop (mkF m 63 #[.val (.int (8 : Int32))] [])) _
    refine XS.iloadN X0.here hx rfl (hb hby d1_63) rfl ?_
    show Steps p.tables e below (s₁.setTop (mkF m 64 #[.val (.int (8 : Int32))] [(.int (8 : Int32))])) _
    refine XS.bipush X0.here hx rfl (hb hby d1_64) ?_
    show Steps p.tables e below (s₁.setTop (mkF m 66 #[.val (.int (8 : Int32))] [(.int (7 : Int32)), (.int (8 : Int32))])) _
    refine XS.icmpYes X0.here hx rfl (pc0 := 66) (pc' := 73) rfl (hb hby d1_66) rfl (feq (by decide : ¬ ((8 : Int32) = (7 : Int32)))).2 (by decide) (by decide) ?_
    show Steps p.tables e below (s₁.setTop (mkF m 73 #[.val (.int (8 : Int32))] [])) _
    refine XS.iloadN X0.here hx rfl (hb hby d1_73) rfl ?_
    show Steps p.tables e below (s₁.setTop (mkF m 74 #[.val (.int (8 : Int32))] [(.int (8 : Int32))])) _
    refine XS.bipush X0.here hx rfl (hb hby d1_74) ?_
    show Steps p.tables e below (s₁.setTop (mkF m 76 #[.val (.int (8 : Int32))] [(.int (8 : Int32)), (.int (8 : Int32))])) _
    refine XS.icmpNo X0.here hx rfl (hb hby d1_76) rfl (teq (rfl : (8 : Int32) = (8 : Int32))).2 ?_
    exact k
  obtain ⟨T54, X54, e54, st54⟩ := getS2 X0 hx hZ hown (host := "") (Or.inl (hw _ (List.mem_of_getElem? (i := 20) rfl))) Via.refl e0 P0 (g := (mkF m 79 #[.val (.int (8 : Int32))] [])) rfl (hb hby d1_79)
  refine own_go st54 ?_
  obtain ⟨fs, hr, hrun, hended, hW, hsame⟩ := X54.leave (v := some (.ref s_Axis_PRECEDING_SIBLING)) (fun h => by rw [Bd.returns] at h; cases h)
  refine ⟨_, _, ?_, hrun, hended, _, _, rfl, ?_, ⟨_, rfl⟩, hW, hsame.mono (by decide) (by decide)⟩
  · show Steps p.tables e below (T54.setTop (mkF m 82 #[.val (.int (8 : Int32))] [(.ref s_Axis_PRECEDING_SIBLING)])) _
    exact retOut X54 hx Bd.returns rfl (Or.inr (Or.inr (Or.inr (Or.inr ⟨rfl, rfl, rfl⟩)))) (hb hby d1_82) hr
  · show Qrm1_8 Z s_Axis_PRECEDING_SIBLING h0 n0 _ T54.heap _
    rw [e54]
    exact ⟨rfl, N0, rfl⟩
def Qrm1_9 (Z : State) (s_Axis_FOLLOWING : Addr) (h0 : Heap) (n0 : Nat) (v : Option Value) (h : Heap) (L : List Loc) : Prop := v = some (.ref s_Axis_FOLLOWING) ∧ Fr n0 L ∧ h = h0
theorem efrm1_9 (m : MethodId)  : entryFrame m #[(.int (9 : Int32))] 1 = mkF m 0 #[.val (.int (9 : Int32))] [] := by first | (simp [entryFrame, mkF, argsToLocals, Value.category]; done) | rfl
set_option maxRecDepth 65536 in
set_option maxHeartbeats 40000000 in
theorem rm1_9 (l : Launch) (Z : State) (a0 : Array Value) (hw : ∀ d ∈ tables_1, d.before a0 Z = true) (ws : List Jvm.Cond) (s_Axis_FOLLOWING : Addr) (h0 : Heap) (n0 : Nat) (Z0 : n0 ≤ h0.size) (P0 : Sta Z h0 "com/example/decider/decider/library/xpath/Axis" "FOLLOWING" "Lcom/example/decider/decider/library/xpath/Axis;" (.ref s_Axis_FOLLOWING)) :
    MetFree l (⟨"com/example/decider/decider/library/xpath/AxisLeadsToOneNodePinLaw", "pick", "(I)Lcom/example/decider/decider/library/xpath/Axis;"⟩ : MethodName) (head1 (Jvm.Cond.code (⟨"com/example/decider/decider/library/xpath/AxisLeadsToOneNodePinLaw", "pick", "(I)Lcom/example/decider/decider/library/xpath/Axis;"⟩ : MethodName) method_3_code 1 (some (.object "com/example/decider/decider/library/xpath/Axis")) :: ws) ({ frames := 0, cells := 0, slots := 0, locals := 0 } : Room)) (fun a U => a = #[(.int (9 : Int32))] ∧ Z.Warmed39 U.vm ∧ U.heap = h0) (fun _ _ _ _ _ => True) (fun _ U o U' => ∃ v L, o = .returned v ∧ Qrm1_9 Z s_Axis_FOLLOWING h0 n0 v U'.heap L ∧ FrameEnd U o U' L ({ frames := 0, cells := 0, slots := 0, locals := 0 } : Room).cells ({ frames := 0, cells := 0, slots := 0, locals := 0 } : Room).slots) := by
  refine MetFree.of_bodySF (plainFor_of_name pn_0) hisR ?_
  intro p e s m args below meth c s₁ Bd hml0 hP hK
  obtain ⟨rfl, hZ, hh⟩ := hP
  have hx := Bd.exec
  have hby := Bd.bytes
  have hml : c.maxLocals = 1 := hml0
  have hown : s.vm.findClass "com/example/decider/decider/library/xpath/AxisLeadsToOneNodePinLaw" = some m.cls := findClass_of_methodNamed Bd.named
  have hnm := (name_of_methodNamed Bd.named Bd.method).1
  have X0 : Stand p l e ({ frames := 0, cells := 0, slots := 0, locals := 0 } : Room) s m #[(.int (9 : Int32))] below meth c s₁ [] 0 0 := Stand.of_body Bd
  have e0 : s₁.heap = h0 := by rw [← hh, Bd.state]; rfl
  have N0 := Fr.nil n0
  have K0 : Keep h0 h0 [] := Keep.refl h0 _
  refine own_go (B := s₁.setTop (mkF m 0 #[.val (.int (9 : Int32))] [])) (fun t k => castTop (efrm1_9 m ) k) ?_
  refine own_go (A := s₁.setTop (mkF m 0 #[.val (.int (9 : Int32))] [])) (B := s₁.setTop (mkF m 89 #[.val (.int (9 : Int32))] [])) (fun t k => ?_) ?_
  · show Steps p.tables e below (s₁.setTop (mkF m 0 #[.val (.int (9 : Int32))] [])) _
    refine XS.iloadN X0.here hx rfl (hb hby d1_0) rfl ?_
    show Steps p.tables e below (s₁.setTop (mkF m 1 #[.val (.int (9 : Int32))] [(.int (9 : Int32))])) _
    refine XS.ifYes X0.here hx rfl (pc0 := 1) (pc' := 8) rfl (hb hby d1_1) rfl ((if0 _ _).trans (feq (by decide : ¬ ((9 : Int32) = (0 : Int32)))).2) (by decide) (by decide) ?_
    show Steps p.tables e below (s₁.setTop (mkF m 8 #[.val (.int (9 : Int32))] [])) _
    refine XS.iloadN X0.here hx rfl (hb hby d1_8) rfl ?_
    show Steps p.tables e below (s₁.setTop (mkF m 9 #[.val (.int (9 : Int32))] [(.int (9 : Int32))])) _
    refine XS.iconst X0.here hx rfl (hb hby d1_9) ?_
    show Steps p.tables e below (s₁.setTop (mkF m 10 #[.val (.int (9 : Int32))] [(.int (1 : Int32)), (.int (9 : Int32))])) _
    refine XS.icmpYes X0.here hx rfl (pc0 := 10) (pc' := 17) rfl (hb hby d1_10) rfl (feq (by decide : ¬ ((9 : Int32) = (1 : Int32)))).2 (by decide) (by decide) ?_
    show Steps p.tables e below (s₁.setTop (mkF m 17 #[.val (.int (9 : Int32))] [])) _
    refine XS.iloadN X0.here hx rfl (hb hby d1_17) rfl ?_
    show Steps p.tables e below (s₁.setTop (mkF m 18 #[.val (.int (9 : Int32))] [(.int (9 : Int32))])) _
    refine XS.iconst X0.here hx rfl (hb hby d1_18) ?_
    show Steps p.tables e below (s₁.setTop (mkF m 19 #[.val (.int (9 : Int32))] [(.int (2 : Int32)), (.int (9 : Int32))])) _
    refine XS.icmpYes X0.here hx rfl (pc0 := 19) (pc' := 26) rfl (hb hby d1_19) rfl (feq (by decide : ¬ ((9 : Int32) = (2 : Int32)))).2 (by decide) (by decide) ?_
    show Steps p.tables e below (s₁.setTop (mkF m 26 #[.val (.int (9 : Int32))] [])) _
    refine XS.iloadN X0.here hx rfl (hb hby d1_26) rfl ?_
    show Steps p.tables e below (s₁.setTop (mkF m 27 #[.val (.int (9 : Int32))] [(.int (9 : Int32))])) _
    refine XS.iconst X0.here hx rfl (hb hby d1_27) ?_
    show Steps p.tables e below (s₁.setTop (mkF m 28 #[.val (.int (9 : Int32))] [(.int (3 : Int32)), (.int (9 : Int32))])) _
    refine XS.icmpYes X0.here hx rfl (pc0 := 28) (pc' := 35) rfl (hb hby d1_28) rfl (feq (by decide : ¬ ((9 : Int32) = (3 : Int32)))).2 (by decide) (by decide) ?_
    show Steps p.tables e below (s₁.setTop (mkF m 35 #[.val (.int (9 : Int32))] [])) _
    refine XS.iloadN X0.here hx rfl (hb hby d1_35) rfl ?_
    show Steps p.tables e below (s₁.setTop (mkF m 36 #[.val (.int (9 : Int32))] [(.int (9 : Int32))])) _
    refine XS.iconst X0.here hx rfl (hb hby d1_36) ?_
    show Steps p.tables e below (s₁.setTop (mkF m 37 #[.val (.int (9 : Int32))] [(.int (4 : Int32)), (.int (9 : Int32))])) _
    refine XS.icmpYes X0.here hx rfl (pc0 := 37) (pc' := 44) rfl (hb hby d1_37) rfl (feq (by decide : ¬ ((9 : Int32) = (4 : Int32)))).2 (by decide) (by decide) ?_
    show Steps p.tables e below (s₁.setTop (mkF m 44 #[.val (.int (9 : Int32))] [])) _
    refine XS.iloadN X0.here hx rfl (hb hby d1_44) rfl ?_
    show Steps p.tables e below (s₁.setTop (mkF m 45 #[.val (.int (9 : Int32))] [(.int (9 : Int32))])) _
    refine XS.iconst X0.here hx rfl (hb hby d1_45) ?_
    show Steps p.tables e below (s₁.setTop (mkF m 46 #[.val (.int (9 : Int32))] [(.int (5 : Int32)), (.int (9 : Int32))])) _
    refine XS.icmpYes X0.here hx rfl (pc0 := 46) (pc' := 53) rfl (hb hby d1_46) rfl (feq (by decide : ¬ ((9 : Int32) = (5 : Int32)))).2 (by decide) (by decide) ?_
    show Steps p.tables e below (s₁.setTop (mkF m 53 #[.val (.int (9 : Int32))] [])) _
    refine XS.iloadN X0.here hx rfl (hb hby d1_53) rfl ?_
    show Steps p.tables e below (s₁.setTop (mkF m 54 #[.val (.int (9 : Int32))] [(.int (9 : Int32))])) _
    refine XS.bipush X0.here hx rfl (hb hby d1_54) ?_
    show Steps p.tables e below (s₁.setTop (mkF m 56 #[.val (.int (9 : Int32))] [(.int (6 : Int32)), (.int (9 : Int32))])) _
    refine XS.icmpYes X0.here hx rfl (pc0 := 56) (pc' := 63) rfl (hb hby d1_56) rfl (feq (by decide : ¬ ((9 : Int32) = (6 : Int32)))).2 (by decide) (by decide) ?_
    show Steps p.tables e below (s₁.setTop (mkF m 63 #[.val (.int (9 : Int32))] [])) _
    refine XS.iloadN X0.here hx rfl (hb hby d1_63) rfl ?_
    show Steps p.tables e below (s₁.setTop (mkF m 64 #[.val (.int (9 : Int32))] [(.int (9 : Int32))])) _
    refine XS.bipush X0.here hx rfl (hb hby d1_64) ?_
    show Steps p.tables e below (s₁.setTop (mkF m 66 #[.val (.int (9 : Int32))] [(.int (7 : Int32)), (.int (9 : Int32))])) _
    refine XS.icmpYes X0.here hx rfl (pc0 := 66) (pc' := 73) rfl (hb hby d1_66) rfl (feq (by decide : ¬ ((9 : Int32) = (7 : Int32)))).2 (by decide) (by decide) ?_
    show Steps p.tables e below (s₁.setTop (mkF m 73 #[.val (.int (9 : Int32))] [])) _
    refine XS.iloadN X0.here hx rfl (hb hby d1_73) rfl ?_
    show Steps p.tables e below (s₁.setTop (mkF m 74 #[.val (.int (9 : Int32))] [(.int (9 : Int32))])) _
    refine XS.bipush X0.here hx rfl (hb hby d1_74) ?_
    show Steps p.tables e below (s₁.setTop (mkF m 76 #[.val (.int (9 : Int32))] [(.int (8 : Int32)), (.int (9 : Int32))])) _
    refine XS.icmpYes X0.here hx rfl (pc0 := 76) (pc' := 83) rfl (hb hby d1_76) rfl (feq (by decide : ¬ ((9 : Int32) = (8 : Int32)))).2 (by decide) (by decide) ?_
    show Steps p.tables e below (s₁.setTop (mkF m 83 #[.val (.int (9 : Int32))] [])) _
    refine XS.iloadN X0.here hx rfl (hb hby d1_83) rfl ?_
    show Steps p.tables e below (s₁.setTop (mkF m 84 #[.val (.int (9 : Int32))] [(.int (9 : Int32))])) _
    refine XS.bipush X0.here hx rfl (hb hby d1_84) ?_
    show Steps p.tables e below (s₁.setTop (mkF m 86 #[.val (.int (9 : Int32))] [(.int (9 : Int32)), (.int (9 : Int32))])) _
    refine XS.icmpNo X0.here hx rfl (hb hby d1_86) rfl (teq (rfl : (9 : Int32) = (9 : Int32))).2 ?_
    exact k
  obtain ⟨T65, X65, e65, st65⟩ := getS2 X0 hx hZ hown (host := "") (Or.inl (hw _ (List.mem_of_getElem? (i := 27) rfl))) Via.refl e0 P0 (g := (mkF m 89 #[.val (.int (9 : Int32))] [])) rfl (hb hby d1_89)
  refine own_go st65 ?_
  obtain ⟨fs, hr, hrun, hended, hW, hsame⟩ := X65.leave (v := some (.ref s_Axis_FOLLOWING)) (fun h => by rw [Bd.returns] at h; cases h)
  refine ⟨_, _, ?_, hrun, hended, _, _, rfl, ?_, ⟨_, rfl⟩, hW, hsame.mono (by decide) (by decide)⟩
  · show Steps p.tables e below (T65.setTop (mkF m 92 #[.val (.int (9 : Int32))] [(.ref s_Axis_FOLLOWING)])) _
    exact retOut X65 hx Bd.returns rfl (Or.inr (Or.inr (Or.inr (Or.inr ⟨rfl, rfl, rfl⟩)))) (hb hby d1_92) hr
  · show Qrm1_9 Z s_Axis_FOLLOWING h0 n0 _ T65.heap _
    rw [e65]
    exact ⟨rfl, N0, rfl⟩
def Qrm1_10 (Z : State) (s_Axis_PRECEDING : Addr) (h0 : Heap) (n0 : Nat) (v : Option Value) (h : Heap) (L : List Loc) : Prop := v = some (.ref s_Axis_PRECEDING) ∧ Fr n0 L ∧ h = h0
theorem efrm1_10 (m : MethodId)  : entryFrame m #[(.int (10 : Int32))] 1 = mkF m 0 #[.val (.int (10 : Int32))] [] := by first | (simp [entryFrame, mkF, argsToLocals, Value.category]; done) | rfl
set_option maxRecDepth 65536 in
set_option maxHeartbeats 40000000 in
theorem rm1_10 (l : Launch) (Z : State) (a0 : Array Value) (hw : ∀ d ∈ tables_1, d.before a0 Z = true) (ws : List Jvm.Cond) (s_Axis_PRECEDING : Addr) (h0 : Heap) (n0 : Nat) (Z0 : n0 ≤ h0.size) (P0 : Sta Z h0 "com/example/decider/decider/library/xpath/Axis" "PRECEDING" "Lcom/example/decider/decider/library/xpath/Axis;" (.ref s_Axis_PRECEDING)) :
    MetFree l (⟨"com/example/decider/decider/library/xpath/AxisLeadsToOneNodePinLaw", "pick", "(I)Lcom/example/decider/decider/library/xpath/Axis;"⟩ : MethodName) (head1 (Jvm.Cond.code (⟨"com/example/decider/decider/library/xpath/AxisLeadsToOneNodePinLaw", "pick", "(I)Lcom/example/decider/decider/library/xpath/Axis;"⟩ : MethodName) method_3_code 1 (some (.object "com/example/decider/decider/library/xpath/Axis")) :: ws) ({ frames := 0, cells := 0, slots := 0, locals := 0 } : Room)) (fun a U => a = #[(.int (10 : Int32))] ∧ Z.Warmed39 U.vm ∧ U.heap = h0) (fun _ _ _ _ _ => True) (fun _ U o U' => ∃ v L, o = .returned v ∧ Qrm1_10 Z s_Axis_PRECEDING h0 n0 v U'.heap L ∧ FrameEnd U o U' L ({ frames := 0, cells := 0, slots := 0, locals := 0 } : Room).cells ({ frames := 0, cells := 0, slots := 0, locals := 0 } : Room).slots) := by
  refine MetFree.of_bodySF (plainFor_of_name pn_0) hisR ?_
  intro p e s m args below meth c s₁ Bd hml0 hP hK
  obtain ⟨rfl, hZ, hh⟩ := hP
  have hx := Bd.exec
  have hby := Bd.bytes
  have hml : c.maxLocals = 1 := hml0
  have hown : s.vm.findClass "com/example/decider/decider/library/xpath/AxisLeadsToOneNodePinLaw" = some m.cls := findClass_of_methodNamed Bd.named
  have hnm := (name_of_methodNamed Bd.named Bd.method).1
  have X0 : Stand p l e ({ frames := 0, cells := 0, slots := 0, locals := 0 } : Room) s m #[(.int (10 : Int32))] below meth c s₁ [] 0 0 := Stand.of_body Bd
  have e0 : s₁.heap = h0 := by rw [← hh, Bd.state]; rfl
  have N0 := Fr.nil n0
  have K0 : Keep h0 h0 [] := Keep.refl h0 _
  refine own_go (B := s₁.setTop (mkF m 0 #[.val (.int (10 : Int32))] [])) (fun t k => castTop (efrm1_10 m ) k) ?_
  refine own_go (A := s₁.setTop (mkF m 0 #[.val (.int (10 : Int32))] [])) (B := s₁.setTop (mkF m 93 #[.val (.int (10 : Int32))] [])) (fun t k => ?_) ?_
  · show Steps p.tables e below (s₁.setTop (mkF m 0 #[.val (.int (10 : Int32))] [])) _
    refine XS.iloadN X0.here hx rfl (hb hby d1_0) rfl ?_
    show Steps p.tables e below (s₁.setTop (mkF m 1 #[.val (.int (10 : Int32))] [(.int (10 : Int32))])) _
    refine XS.ifYes X0.here hx rfl (pc0 := 1) (pc' := 8) rfl (hb hby d1_1) rfl ((if0 _ _).trans (feq (by decide : ¬ ((10 : Int32) = (0 : Int32)))).2) (by decide) (by decide) ?_
    show Steps p.tables e below (s₁.setTop (mkF m 8 #[.val (.int (10 : Int32))] [])) _
    refine XS.iloadN X0.here hx rfl (hb hby d1_8) rfl ?_
    show Steps p.tables e below (s₁.setTop (mkF m 9 #[.val (.int (10 : Int32))] [(.int (10 : Int32))])) _
    refine XS.iconst X0.here hx rfl (hb hby d1_9) ?_
    show Steps p.tables e below (s₁.setTop (mkF m 10 #[.val (.int (10 : Int32))] [(.int (1 : Int32)), (.int (10 : Int32))])) _
    refine XS.icmpYes X0.here hx rfl (pc0 := 10) (pc' := 17) rfl (hb hby d1_10) rfl (feq (by decide : ¬ ((10 : Int32) = (1 : Int32)))).2 (by decide) (by decide) ?_
    show Steps p.tables e below (s₁.setTop (mkF m 17 #[.val (.int (10 : Int32))] [])) _
    refine XS.iloadN X0.here hx rfl (hb hby d1_17) rfl ?_
    show Steps p.tables e below (s₁.setTop (mkF m 18 #[.val (.int (10 : Int32))] [(.int (10 : Int32))])) _
    refine XS.iconst X0.here hx rfl (hb hby d1_18) ?_
    show Steps p.tables e below (s₁.setTop (mkF m 19 #[.val (.int (10 : Int32))] [(.int (2 : Int32)), (.int (10 : Int32))])) _
    refine XS.icmpYes X0.here hx rfl (pc0 := 19) (pc' := 26) rfl (hb hby d1_19) rfl (feq (by decide : ¬ ((10 : Int32) = (2 : Int32)))).2 (by decide) (by decide) ?_
    show Steps p.tables e below (s₁.setTop (mkF m 26 #[.val (.int (10 : Int32))] [])) _
    refine XS.iloadN X0.here hx rfl (hb hby d1_26) rfl ?_
    show Steps p.tables e below (s₁.setTop (mkF m 27 #[.val (.int (10 : Int32))] [(.int (10 : Int32))])) _
    refine XS.iconst X0.here hx rfl (hb hby d1_27) ?_
    show Steps p.tables e below (s₁.setTop (mkF m 28 #[.val (.int (10 : Int32))] [(.int (3 : Int32)), (.int (10 : Int32))])) _
    refine XS.icmpYes X0.here hx rfl (pc0 := 28) (pc' := 35) rfl (hb hby d1_28) rfl (feq (by decide : ¬ ((10 : Int32) = (3 : Int32)))).2 (by decide) (by decide) ?_
    show Steps p.tables e below (s₁.setTop (mkF m 35 #[.val (.int (10 : Int32))] [])) _
    refine XS.iloadN X0.here hx rfl (hb hby d1_35) rfl ?_
    show Steps p.tables e below (s₁.setTop (mkF m 36 #[.val (.int (10 : Int32))] [(.int (10 : Int32))])) _
    refine XS.iconst X0.here hx rfl (hb hby d1_36) ?_
    show Steps p.tables e below (s₁.setTop (mkF m 37 #[.val (.int (10 : Int32))] [(.int (4 : Int32)), (.int (10 : Int32))])) _
    refine XS.icmpYes X0.here hx rfl (pc0 := 37) (pc' := 44) rfl (hb hby d1_37) rfl (feq (by decide : ¬ ((10 : Int32) = (4 : Int32)))).2 (by decide) (by decide) ?_
    show Steps p.tables e below (s₁.setTop (mkF m 44 #[.val (.int (10 : Int32))] [])) _
    refine XS.iloadN X0.here hx rfl (hb hby d1_44) rfl ?_
    show Steps p.tables e below (s₁.setTop (mkF m 45 #[.val (.int (10 : Int32))] [(.int (10 : Int32))])) _
    refine XS.iconst X0.here hx rfl (hb hby d1_45) ?_
    show Steps p.tables e below (s₁.setTop (mkF m 46 #[.val (.int (10 : Int32))] [(.int (5 : Int32)), (.int (10 : Int32))])) _
    refine XS.icmpYes X0.here hx rfl (pc0 := 46) (pc' := 53) rfl (hb hby d1_46) rfl (feq (by decide : ¬ ((10 : Int32) = (5 : Int32)))).2 (by decide) (by decide) ?_
    show Steps p.tables e below (s₁.setTop (mkF m 53 #[.val (.int (10 : Int32))] [])) _
    refine XS.iloadN X0.here hx rfl (hb hby d1_53) rfl ?_
    show Steps p.tables e below (s₁.setTop (mkF m 54 #[.val (.int (10 : Int32))] [(.int (10 : Int32))])) _
    refine XS.bipush X0.here hx rfl (hb hby d1_54) ?_
    show Steps p.tables e below (s₁.setTop (mkF m 56 #[.val (.int (10 : Int32))] [(.int (6 : Int32)), (.int (10 : Int32))])) _
    refine XS.icmpYes X0.here hx rfl (pc0 := 56) (pc' := 63) rfl (hb hby d1_56) rfl (feq (by decide : ¬ ((10 : Int32) = (6 : Int32)))).2 (by decide) (by decide) ?_
    show Steps p.tables e below (s₁.setTop (mkF m 63 #[.val (.int (10 : Int32))] [])) _
    refine XS.iloadN X0.here hx rfl (hb hby d1_63) rfl ?_
    show Steps p.tables e below (s₁.setTop (mkF m 64 #[.val (.int (10 : Int32))] [(.int (10 : Int32))])) _
    refine XS.bipush X0.here hx rfl (hb hby d1_64) ?_
    show Steps p.tables e below (s₁.setTop (mkF m 66 #[.val (.int (10 : Int32))] [(.int (7 : Int32)), (.int (10 : Int32))])) _
    refine XS.icmpYes X0.here hx rfl (pc0 := 66) (pc' := 73) rfl (hb hby d1_66) rfl (feq (by decide : ¬ ((10 : Int32) = (7 : Int32)))).2 (by decide) (by decide) ?_
    show Steps p.tables e below (s₁.setTop (mkF m 73 #[.val (.int (10 : Int32))] [])) _
    refine XS.iloadN X0.here hx rfl (hb hby d1_73) rfl ?_
    show Steps p.tables e below (s₁.setTop (mkF m 74 #[.val (.int (10 : Int32))] [(.int (10 : Int32))])) _
    refine XS.bipush X0.here hx rfl (hb hby d1_74) ?_
    show Steps p.tables e below (s₁.setTop (mkF m 76 #[.val (.int (10 : Int32))] [(.int (8 : Int32)), (.int (10 : Int32))])) _
    refine XS.icmpYes X0.here hx rfl (pc0 := 76) (pc' := 83) rfl (hb hby d1_76) rfl (feq (by decide : ¬ ((10 : Int32) = (8 : Int32)))).2 (by decide) (by decide) ?_
    show Steps p.tables e below (s₁.setTop (mkF m 83 #[.val (.int (10 : Int32))] [])) _
    refine XS.iloadN X0.here hx rfl (hb hby d1_83) rfl ?_
    show Steps p.tables e below (s₁.setTop (mkF m 84 #[.val (.int (10 : Int32))] [(.int (10 : Int32))])) _
    refine XS.bipush X0.here hx rfl (hb hby d1_84) ?_
    show Steps p.tables e below (s₁.setTop (mkF m 86 #[.val (.int (10 : Int32))] [(.int (9 : Int32)), (.int (10 : Int32))])) _
    refine XS.icmpYes X0.here hx rfl (pc0 := 86) (pc' := 93) rfl (hb hby d1_86) rfl (feq (by decide : ¬ ((10 : Int32) = (9 : Int32)))).2 (by decide) (by decide) ?_
    exact k
  obtain ⟨T76, X76, e76, st76⟩ := getS2 X0 hx hZ hown (host := "") (Or.inl (hw _ (List.mem_of_getElem? (i := 23) rfl))) Via.refl e0 P0 (g := (mkF m 93 #[.val (.int (10 : Int32))] [])) rfl (hb hby d1_93)
  refine own_go st76 ?_
  obtain ⟨fs, hr, hrun, hended, hW, hsame⟩ := X76.leave (v := some (.ref s_Axis_PRECEDING)) (fun h => by rw [Bd.returns] at h; cases h)
  refine ⟨_, _, ?_, hrun, hended, _, _, rfl, ?_, ⟨_, rfl⟩, hW, hsame.mono (by decide) (by decide)⟩
  · show Steps p.tables e below (T76.setTop (mkF m 96 #[.val (.int (10 : Int32))] [(.ref s_Axis_PRECEDING)])) _
    exact retOut X76 hx Bd.returns rfl (Or.inr (Or.inr (Or.inr (Or.inr ⟨rfl, rfl, rfl⟩)))) (hb hby d1_96) hr
  · show Qrm1_10 Z s_Axis_PRECEDING h0 n0 _ T76.heap _
    rw [e76]
    exact ⟨rfl, N0, rfl⟩
def frm2 (a1 : Addr) (s_Axis_SELF : Addr) (s_Axis_PARENT : Addr) : Int32 := (if a1 = s_Axis_SELF then (1 : Int32) else (if a1 = s_Axis_PARENT then (1 : Int32) else (0 : Int32)))
def Qrm2 (Z : State) (a1 : Addr) (s_Axis_SELF : Addr) (s_Axis_PARENT : Addr) (h0 : Heap) (n0 : Nat) (v : Option Value) (h : Heap) (L : List Loc) : Prop := v = some (.int (frm2 a1 s_Axis_SELF s_Axis_PARENT)) ∧ Fr n0 L ∧ h = h0
theorem efrm2 (m : MethodId) (x0 : Addr) : entryFrame m #[(.ref x0)] 1 = mkF m 0 #[.val (.ref x0)] [] := by first | (simp [entryFrame, mkF, argsToLocals, Value.category]; done) | rfl
set_option maxRecDepth 65536 in
set_option maxHeartbeats 40000000 in
theorem rm2 (l : Launch) (Z : State) (a0 : Array Value) (hw : ∀ d ∈ tables_1, d.before a0 Z = true) (ws : List Jvm.Cond) (a1 : Addr) (s_Axis_SELF : Addr) (s_Axis_PARENT : Addr) (h0 : Heap) (n0 : Nat) (Z0 : n0 ≤ h0.size) (P0 : Sta Z h0 "com/example/decider/decider/library/xpath/Axis" "SELF" "Lcom/example/decider/decider/library/xpath/Axis;" (.ref s_Axis_SELF)) (P1 : Sta Z h0 "com/example/decider/decider/library/xpath/Axis" "PARENT" "Lcom/example/decider/decider/library/xpath/Axis;" (.ref s_Axis_PARENT)) :
    MetFree l (⟨"com/example/decider/decider/library/xpath/Axis", "leadsToOneNode", "()Z"⟩ : MethodName) (head1 (Jvm.Cond.code (⟨"com/example/decider/decider/library/xpath/Axis", "leadsToOneNode", "()Z"⟩ : MethodName) prog_61_method_6_code 1 (some .boolean) :: ws) ({ frames := 0, cells := 0, slots := 0, locals := 0 } : Room)) (fun a U => a = #[(.ref a1)] ∧ Z.Warmed39 U.vm ∧ U.heap = h0) (fun _ _ _ _ _ => True) (fun _ U o U' => ∃ v L, o = .returned v ∧ Qrm2 Z a1 s_Axis_SELF s_Axis_PARENT h0 n0 v U'.heap L ∧ FrameEnd U o U' L ({ frames := 0, cells := 0, slots := 0, locals := 0 } : Room).cells ({ frames := 0, cells := 0, slots := 0, locals := 0 } : Room).slots) := by
  refine MetFree.of_bodySF (plainFor_of_name pn_1) hisR ?_
  intro p e s m args below meth c s₁ Bd hml0 hP hK
  obtain ⟨rfl, hZ, hh⟩ := hP
  have hx := Bd.exec
  have hby := Bd.bytes
  have hml : c.maxLocals = 1 := hml0
  have hown : s.vm.findClass "com/example/decider/decider/library/xpath/Axis" = some m.cls := findClass_of_methodNamed Bd.named
  have hnm := (name_of_methodNamed Bd.named Bd.method).1
  have X0 : Stand p l e ({ frames := 0, cells := 0, slots := 0, locals := 0 } : Room) s m #[(.ref a1)] below meth c s₁ [] 0 0 := Stand.of_body Bd
  have e0 : s₁.heap = h0 := by rw [← hh, Bd.state]; rfl
  have N0 := Fr.nil n0
  have K0 : Keep h0 h0 [] := Keep.refl h0 _
  refine own_go (B := s₁.setTop (mkF m 0 #[.val (.ref a1)] [])) (fun t k => castTop (efrm2 m a1) k) ?_
  refine own_go (A := s₁.setTop (mkF m 0 #[.val (.ref a1)] [])) (B := s₁.setTop (mkF m 1 #[.val (.ref a1)] [(.ref a1)])) (fun t k => ?_) ?_
  · show Steps p.tables e below (s₁.setTop (mkF m 0 #[.val (.ref a1)] [])) _
    refine XS.aloadN X0.here hx rfl (hb hby d2_0) rfl rfl ?_
    exact k
  obtain ⟨T77, X77, e77, st77⟩ := getS2 X0 hx hZ hown (host := "") (Or.inl (hw _ (List.mem_of_getElem? (i := 13) rfl))) Via.refl e0 P0 (g := (mkF m 1 #[.val (.ref a1)] [(.ref a1)])) rfl (hb hby d2_1)
  refine own_go st77 ?_
  by_cases hc4_78 : a1 = s_Axis_SELF
  · refine own_go (A := T77.setTop (mkF m 4 #[.val (.ref a1)] [(.ref s_Axis_SELF), (.ref a1)])) (B := T77.setTop (mkF m 14 #[.val (.ref a1)] [])) (fun t k => ?_) ?_
    · show Steps p.tables e below (T77.setTop (mkF m 4 #[.val (.ref a1)] [(.ref s_Axis_SELF), (.ref a1)])) _
      refine Jvm.RoadKit.acmp (g := (mkF m 4 #[.val (.ref a1)] [(.ref s_Axis_SELF), (.ref a1)])) X77 hx rfl rfl rfl (pc0 := 4) (pc' := 14) (same := true) rfl (hb hby d2_4) rfl (decide_eq_true (congrArg Value.ref hc4_78)) (by decide) (by decide) ?_
      exact k
    refine own_go (A := T77.setTop (mkF m 14 #[.val (.ref a1)] [])) (B := T77.setTop (mkF m 19 #[.val (.ref a1)] [(.int (1 : Int32))])) (fun t k => ?_) ?_
    · show Steps p.tables e below (T77.setTop (mkF m 14 #[.val (.ref a1)] [])) _
      refine XS.iconst X77.here hx rfl (hb hby d2_14) ?_
      show Steps p.tables e below (T77.setTop (mkF m 15 #[.val (.ref a1)] [(.int (1 : Int32))])) _
      refine XS.goto X77.here hx rfl (pc0 := 15) (pc' := 19) rfl (hb hby d2_15) (by decide) (by decide) ?_
      exact k
    obtain ⟨fs, hr, hrun, hended, hW, hsame⟩ := X77.leave (v := some (.int (1 : Int32))) (fun h => by rw [Bd.returns] at h; cases h)
    refine ⟨_, _, ?_, hrun, hended, _, _, rfl, ?_, ⟨_, rfl⟩, hW, hsame.mono (by decide) (by decide)⟩
    · show Steps p.tables e below (T77.setTop (mkF m 19 #[.val (.ref a1)] [(.int (1 : Int32))])) _
      exact retN X77 hx (t := .boolean) Bd.returns (by simp) (hb hby d2_19) hr
    · show Qrm2 Z a1 s_Axis_SELF s_Axis_PARENT h0 n0 _ T77.heap _
      rw [e77]
      exact ⟨(by simp only [frm2, if_pos hc4_78]), N0, rfl⟩
  · refine own_go (A := T77.setTop (mkF m 4 #[.val (.ref a1)] [(.ref s_Axis_SELF), (.ref a1)])) (B := T77.setTop (mkF m 7 #[.val (.ref a1)] [])) (fun t k => ?_) ?_
    · show Steps p.tables e below (T77.setTop (mkF m 4 #[.val (.ref a1)] [(.ref s_Axis_SELF), (.ref a1)])) _
      refine Jvm.RoadKit.acmp (g := (mkF m 4 #[.val (.ref a1)] [(.ref s_Axis_SELF), (.ref a1)])) X77 hx rfl rfl rfl (pc0 := 4) (pc' := 7) (same := false) rfl (hb hby d2_4) rfl (decide_eq_false fun q => hc4_78 (Value.ref.inj q)) (by decide) (by decide) ?_
      exact k
    refine own_go (A := T77.setTop (mkF m 7 #[.val (.ref a1)] [])) (B := T77.setTop (mkF m 8 #[.val (.ref a1)] [(.ref a1)])) (fun t k => ?_) ?_
    · show Steps p.tables e below (T77.setTop (mkF m 7 #[.val (.ref a1)] [])) _
      refine XS.aloadN X77.here hx rfl (hb hby d2_7) rfl rfl ?_
      exact k
    obtain ⟨T79, X79, e79, st79⟩ := getS2 X77 hx hZ hown (host := "") (Or.inl (hw _ (List.mem_of_getElem? (i := 16) rfl))) Via.refl e77 P1 (g := (mkF m 8 #[.val (.ref a1)] [(.ref a1)])) rfl (hb hby d2_8)
    refine own_go st79 ?_
    by_cases hc11_80 : a1 = s_Axis_PARENT
    · refine own_go (A := T79.setTop (mkF m 11 #[.val (.ref a1)] [(.ref s_Axis_PARENT), (.ref a1)])) (B := T79.setTop (mkF m 14 #[.val (.ref a1)] [])) (fun t k => ?_) ?_
      · show Steps p.tables e below (T79.setTop (mkF m 11 #[.val (.ref a1)] [(.ref s_Axis_PARENT), (.ref a1)])) _
        refine Jvm.RoadKit.acmp (g := (mkF m 11 #[.val (.ref a1)] [(.ref s_Axis_PARENT), (.ref a1)])) X79 hx rfl rfl rfl (pc0 := 11) (pc' := 14) (same := true) rfl (hb hby d2_11) rfl (decide_eq_true (congrArg Value.ref hc11_80)) (by decide) (by decide) ?_
        exact k
      refine own_go (A := T79.setTop (mkF m 14 #[.val (.ref a1)] [])) (B := T79.setTop (mkF m 19 #[.val (.ref a1)] [(.int (1 : Int32))])) (fun t k => ?_) ?_
      · show Steps p.tables e below (T79.setTop (mkF m 14 #[.val (.ref a1)] [])) _
        refine XS.iconst X79.here hx rfl (hb hby d2_14) ?_
        show Steps p.tables e below (T79.setTop (mkF m 15 #[.val (.ref a1)] [(.int (1 : Int32))])) _
        refine XS.goto X79.here hx rfl (pc0 := 15) (pc' := 19) rfl (hb hby d2_15) (by decide) (by decide) ?_
        exact k
      obtain ⟨fs, hr, hrun, hended, hW, hsame⟩ := X79.leave (v := some (.int (1 : Int32))) (fun h => by rw [Bd.returns] at h; cases h)
      refine ⟨_, _, ?_, hrun, hended, _, _, rfl, ?_, ⟨_, rfl⟩, hW, hsame.mono (by decide) (by decide)⟩
      · show Steps p.tables e below (T79.setTop (mkF m 19 #[.val (.ref a1)] [(.int (1 : Int32))])) _
        exact retN X79 hx (t := .boolean) Bd.returns (by simp) (hb hby d2_19) hr
      · show Qrm2 Z a1 s_Axis_SELF s_Axis_PARENT h0 n0 _ T79.heap _
        rw [e79]
        exact ⟨(by simp only [frm2, if_neg hc4_78, if_pos hc11_80]), N0, rfl⟩
    · refine own_go (A := T79.setTop (mkF m 11 #[.val (.ref a1)] [(.ref s_Axis_PARENT), (.ref a1)])) (B := T79.setTop (mkF m 18 #[.val (.ref a1)] [])) (fun t k => ?_) ?_
      · show Steps p.tables e below (T79.setTop (mkF m 11 #[.val (.ref a1)] [(.ref s_Axis_PARENT), (.ref a1)])) _
        refine Jvm.RoadKit.acmp (g := (mkF m 11 #[.val (.ref a1)] [(.ref s_Axis_PARENT), (.ref a1)])) X79 hx rfl rfl rfl (pc0 := 11) (pc' := 18) (same := false) rfl (hb hby d2_11) rfl (decide_eq_false fun q => hc11_80 (Value.ref.inj q)) (by decide) (by decide) ?_
        exact k
      refine own_go (A := T79.setTop (mkF m 18 #[.val (.ref a1)] [])) (B := T79.setTop (mkF m 19 #[.val (.ref a1)] [(.int (0 : Int32))])) (fun t k => ?_) ?_
      · show Steps p.tables e below (T79.setTop (mkF m 18 #[.val (.ref a1)] [])) _
        refine XS.iconst X79.here hx rfl (hb hby d2_18) ?_
        exact k
      obtain ⟨fs, hr, hrun, hended, hW, hsame⟩ := X79.leave (v := some (.int (0 : Int32))) (fun h => by rw [Bd.returns] at h; cases h)
      refine ⟨_, _, ?_, hrun, hended, _, _, rfl, ?_, ⟨_, rfl⟩, hW, hsame.mono (by decide) (by decide)⟩
      · show Steps p.tables e below (T79.setTop (mkF m 19 #[.val (.ref a1)] [(.int (0 : Int32))])) _
        exact retN X79 hx (t := .boolean) Bd.returns (by simp) (hb hby d2_19) hr
      · show Qrm2 Z a1 s_Axis_SELF s_Axis_PARENT h0 n0 _ T79.heap _
        rw [e79]
        exact ⟨(by simp only [frm2, if_neg hc4_78, if_neg hc11_80]), N0, rfl⟩
theorem own_eqint {args : Array Value} {s : State} {t : Term} {k : Int32} (h : (Jvm.Cond.eq t (Term.int k)).value args s none s [] = some true) : t.eval args s none [] s = some (.int k) := by
  simp only [Cond.value, Term.eval] at h
  cases ht : t.eval args s none [] s with
  | none => simp [ht] at h
  | some x => cases x <;> simp [ht] at h ⊢; exact h
theorem own_rem (x : Int32) : ((x &&& (2147483647 : Int32)) % (11 : Int32)) = (0 : Int32) ∨ ((x &&& (2147483647 : Int32)) % (11 : Int32)) = (1 : Int32) ∨ ((x &&& (2147483647 : Int32)) % (11 : Int32)) = (2 : Int32) ∨ ((x &&& (2147483647 : Int32)) % (11 : Int32)) = (3 : Int32) ∨ ((x &&& (2147483647 : Int32)) % (11 : Int32)) = (4 : Int32) ∨ ((x &&& (2147483647 : Int32)) % (11 : Int32)) = (5 : Int32) ∨ ((x &&& (2147483647 : Int32)) % (11 : Int32)) = (6 : Int32) ∨ ((x &&& (2147483647 : Int32)) % (11 : Int32)) = (7 : Int32) ∨ ((x &&& (2147483647 : Int32)) % (11 : Int32)) = (8 : Int32) ∨ ((x &&& (2147483647 : Int32)) % (11 : Int32)) = (9 : Int32) ∨ ((x &&& (2147483647 : Int32)) % (11 : Int32)) = (10 : Int32) := by
  have h1 := (c_and x 2147483647 (by decide)).1
  have h2 := (c_irem (x &&& (2147483647 : Int32)) 11 11 rfl).1 h1
  have h3 : 0 ≤ ((x &&& (2147483647 : Int32)) % (11 : Int32)).toInt := by rw [h2]; omega
  have h4 : ((x &&& (2147483647 : Int32)) % (11 : Int32)).toInt < 11 := by rw [h2]; omega
  simp only [← Int32.toInt_inj]
  simp only [Int32.reduceToInt]
  omega
def Qrm0 (Z : State) (p1 : Int32) (s_Axis_SELF : Addr) (s_Axis_CHILD : Addr) (s_Axis_PARENT : Addr) (s_Axis_DESCENDANT : Addr) (s_Axis_DESCENDANT_OR_SELF : Addr) (s_Axis_ANCESTOR : Addr) (s_Axis_ANCESTOR_OR_SELF : Addr) (s_Axis_FOLLOWING_SIBLING : Addr) (s_Axis_PRECEDING_SIBLING : Addr) (s_Axis_FOLLOWING : Addr) (s_Axis_PRECEDING : Addr) (h0 : Heap) (n0 : Nat) (v : Option Value) (h : Heap) (L : List Loc) : Prop := v = some (.int (1 : Int32)) ∧ Fr n0 L
theorem efrm0 (m : MethodId) (x0 : Int32) : entryFrame m #[(.int x0)] maxLocals = mkF m 0 #[.val (.int x0), .unset, .unset, .unset] [] := by first | (simp [entryFrame, mkF, argsToLocals, Value.category, maxLocals]; done) | rfl
set_option maxRecDepth 65536 in
set_option maxHeartbeats 40000000 in
theorem rm0 (l : Launch) (Z : State) (a0 : Array Value) (hw : ∀ d ∈ tables_1, d.before a0 Z = true) (ws : List Jvm.Cond) (p1 : Int32) (s_Axis_SELF : Addr) (s_Axis_CHILD : Addr) (s_Axis_PARENT : Addr) (s_Axis_DESCENDANT : Addr) (s_Axis_DESCENDANT_OR_SELF : Addr) (s_Axis_ANCESTOR : Addr) (s_Axis_ANCESTOR_OR_SELF : Addr) (s_Axis_FOLLOWING_SIBLING : Addr) (s_Axis_PRECEDING_SIBLING : Addr) (s_Axis_FOLLOWING : Addr) (s_Axis_PRECEDING : Addr) (h0 : Heap) (n0 : Nat) (Z0 : n0 ≤ h0.size) (P0 : Sta Z h0 "com/example/decider/decider/library/xpath/Axis" "SELF" "Lcom/example/decider/decider/library/xpath/Axis;" (.ref s_Axis_SELF)) (P1 : Exa Z h0 s_Axis_SELF "com/example/decider/decider/library/xpath/Axis") (P2 : Sta Z h0 "com/example/decider/decider/library/xpath/Axis" "CHILD" "Lcom/example/decider/decider/library/xpath/Axis;" (.ref s_Axis_CHILD)) (P3 : Exa Z h0 s_Axis_CHILD "com/example/decider/decider/library/xpath/Axis") (P4 : Sta Z h0 "com/example/decider/decider/library/xpath/Axis" "PARENT" "Lcom/example/decider/decider/library/xpath/Axis;" (.ref s_Axis_PARENT)) (P5 : Exa Z h0 s_Axis_PARENT "com/example/decider/decider/library/xpath/Axis") (P6 : Sta Z h0 "com/example/decider/decider/library/xpath/Axis" "DESCENDANT" "Lcom/example/decider/decider/library/xpath/Axis;" (.ref s_Axis_DESCENDANT)) (P7 : Exa Z h0 s_Axis_DESCENDANT "com/example/decider/decider/library/xpath/Axis") (P8 : Sta Z h0 "com/example/decider/decider/library/xpath/Axis" "DESCENDANT_OR_SELF" "Lcom/example/decider/decider/library/xpath/Axis;" (.ref s_Axis_DESCENDANT_OR_SELF)) (P9 : Exa Z h0 s_Axis_DESCENDANT_OR_SELF "com/example/decider/decider/library/xpath/Axis") (P10 : Sta Z h0 "com/example/decider/decider/library/xpath/Axis" "ANCESTOR" "Lcom/example/decider/decider/library/xpath/Axis;" (.ref s_Axis_ANCESTOR)) (P11 : Exa Z h0 s_Axis_ANCESTOR "com/example/decider/decider/library/xpath/Axis") (P12 : Sta Z h0 "com/example/decider/decider/library/xpath/Axis" "ANCESTOR_OR_SELF" "Lcom/example/decider/decider/library/xpath/Axis;" (.ref s_Axis_ANCESTOR_OR_SELF)) (P13 : Exa Z h0 s_Axis_ANCESTOR_OR_SELF "com/example/decider/decider/library/xpath/Axis") (P14 : Sta Z h0 "com/example/decider/decider/library/xpath/Axis" "FOLLOWING_SIBLING" "Lcom/example/decider/decider/library/xpath/Axis;" (.ref s_Axis_FOLLOWING_SIBLING)) (P15 : Exa Z h0 s_Axis_FOLLOWING_SIBLING "com/example/decider/decider/library/xpath/Axis") (P16 : Sta Z h0 "com/example/decider/decider/library/xpath/Axis" "PRECEDING_SIBLING" "Lcom/example/decider/decider/library/xpath/Axis;" (.ref s_Axis_PRECEDING_SIBLING)) (P17 : Exa Z h0 s_Axis_PRECEDING_SIBLING "com/example/decider/decider/library/xpath/Axis") (P18 : Sta Z h0 "com/example/decider/decider/library/xpath/Axis" "FOLLOWING" "Lcom/example/decider/decider/library/xpath/Axis;" (.ref s_Axis_FOLLOWING)) (P19 : Exa Z h0 s_Axis_FOLLOWING "com/example/decider/decider/library/xpath/Axis") (P20 : Sta Z h0 "com/example/decider/decider/library/xpath/Axis" "PRECEDING" "Lcom/example/decider/decider/library/xpath/Axis;" (.ref s_Axis_PRECEDING)) (P21 : Exa Z h0 s_Axis_PRECEDING "com/example/decider/decider/library/xpath/Axis") (ne_s_Axis_CHILD_s_Axis_SELF : s_Axis_CHILD ≠ s_Axis_SELF) (ne_s_Axis_CHILD_s_Axis_PARENT : s_Axis_CHILD ≠ s_Axis_PARENT) (ne_s_Axis_PARENT_s_Axis_SELF : s_Axis_PARENT ≠ s_Axis_SELF) (ne_s_Axis_DESCENDANT_s_Axis_SELF : s_Axis_DESCENDANT ≠ s_Axis_SELF) (ne_s_Axis_DESCENDANT_s_Axis_PARENT : s_Axis_DESCENDANT ≠ s_Axis_PARENT) (ne_s_Axis_DESCENDANT_OR_SELF_s_Axis_SELF : s_Axis_DESCENDANT_OR_SELF ≠ s_Axis_SELF) (ne_s_Axis_DESCENDANT_OR_SELF_s_Axis_PARENT : s_Axis_DESCENDANT_OR_SELF ≠ s_Axis_PARENT) (ne_s_Axis_ANCESTOR_s_Axis_SELF : s_Axis_ANCESTOR ≠ s_Axis_SELF) (ne_s_Axis_ANCESTOR_s_Axis_PARENT : s_Axis_ANCESTOR ≠ s_Axis_PARENT) (ne_s_Axis_ANCESTOR_OR_SELF_s_Axis_SELF : s_Axis_ANCESTOR_OR_SELF ≠ s_Axis_SELF) (ne_s_Axis_ANCESTOR_OR_SELF_s_Axis_PARENT : s_Axis_ANCESTOR_OR_SELF ≠ s_Axis_PARENT) (ne_s_Axis_FOLLOWING_SIBLING_s_Axis_SELF : s_Axis_FOLLOWING_SIBLING ≠ s_Axis_SELF) (ne_s_Axis_FOLLOWING_SIBLING_s_Axis_PARENT : s_Axis_FOLLOWING_SIBLING ≠ s_Axis_PARENT) (ne_s_Axis_PRECEDING_SIBLING_s_Axis_SELF : s_Axis_PRECEDING_SIBLING ≠ s_Axis_SELF) (ne_s_Axis_PRECEDING_SIBLING_s_Axis_PARENT : s_Axis_PRECEDING_SIBLING ≠ s_Axis_PARENT) (ne_s_Axis_FOLLOWING_s_Axis_SELF : s_Axis_FOLLOWING ≠ s_Axis_SELF) (ne_s_Axis_FOLLOWING_s_Axis_PARENT : s_Axis_FOLLOWING ≠ s_Axis_PARENT) (ne_s_Axis_PRECEDING_s_Axis_SELF : s_Axis_PRECEDING ≠ s_Axis_SELF) (ne_s_Axis_PRECEDING_s_Axis_PARENT : s_Axis_PRECEDING ≠ s_Axis_PARENT) :
    MetFree l x (head1 (Jvm.Cond.code x code maxLocals ret :: ws) room_1) (fun a U => a = #[(.int p1)] ∧ Z.Warmed39 U.vm ∧ U.heap = h0) (fun _ _ _ _ _ => True) (fun _ U o U' => ∃ v L, o = .returned v ∧ Qrm0 Z p1 s_Axis_SELF s_Axis_CHILD s_Axis_PARENT s_Axis_DESCENDANT s_Axis_DESCENDANT_OR_SELF s_Axis_ANCESTOR s_Axis_ANCESTOR_OR_SELF s_Axis_FOLLOWING_SIBLING s_Axis_PRECEDING_SIBLING s_Axis_FOLLOWING s_Axis_PRECEDING h0 n0 v U'.heap L ∧ FrameEnd U o U' L room_1.cells room_1.slots) := by
  refine MetFree.of_bodySF (plainFor_of_name pn_0) hisR ?_
  intro p e s m args below meth c s₁ Bd hml0 hP hK
  obtain ⟨rfl, hZ, hh⟩ := hP
  have hx := Bd.exec
  have hby := Bd.bytes
  have hml : c.maxLocals = 4 := hml0
  have hown : s.vm.findClass "com/example/decider/decider/library/xpath/AxisLeadsToOneNodePinLaw" = some m.cls := findClass_of_methodNamed Bd.named
  have hnm := (name_of_methodNamed Bd.named Bd.method).1
  have X0 : Stand p l e room_1 s m #[(.int p1)] below meth c s₁ [] 0 0 := Stand.of_body Bd
  have e0 : s₁.heap = h0 := by rw [← hh, Bd.state]; rfl
  have N0 := Fr.nil n0
  have K0 : Keep h0 h0 [] := Keep.refl h0 _
  refine own_go (B := s₁.setTop (mkF m 0 #[.val (.int p1), .unset, .unset, .unset] [])) (fun t k => castTop (efrm0 m p1) k) ?_
  refine own_go (A := s₁.setTop (mkF m 0 #[.val (.int p1), .unset, .unset, .unset] [])) (B := s₁.setTop (mkF m 7 #[.val (.int p1), .unset, .unset, .unset] [(.int ((p1 &&& (2147483647 : Int32)) % (11 : Int32)))])) (fun t k => ?_) ?_
  · show Steps p.tables e below (s₁.setTop (mkF m 0 #[.val (.int p1), .unset, .unset, .unset] [])) _
    refine XS.iloadN X0.here hx rfl (hb hby at_0) rfl ?_
    show Steps p.tables e below (s₁.setTop (mkF m 1 #[.val (.int p1), .unset, .unset, .unset] [(.int p1)])) _
    refine X0.ldcInt hx hown (mvT hZ (hw _ (List.mem_of_getElem? (i := 0) rfl))) (g := (mkF m 1 #[.val (.int p1), .unset, .unset, .unset] [(.int p1)])) rfl (hb hby at_1) _ ?_
    show Steps p.tables e below (s₁.setTop (mkF m 3 #[.val (.int p1), .unset, .unset, .unset] [(.int (2147483647 : Int32)), (.int p1)])) _
    refine XS.iand X0.here hx rfl (hb hby at_3) rfl ?_
    show Steps p.tables e below (s₁.setTop (mkF m 4 #[.val (.int p1), .unset, .unset, .unset] [(.int (p1 &&& (2147483647 : Int32)))])) _
    refine XS.bipush X0.here hx rfl (hb hby at_4) ?_
    show Steps p.tables e below (s₁.setTop (mkF m 6 #[.val (.int p1), .unset, .unset, .unset] [(.int (11 : Int32)), (.int (p1 &&& (2147483647 : Int32)))])) _
    refine iremM X0 hx rfl (hb hby at_6) rfl (by decide) ?_
    exact k
  rcases own_rem _ with hk81 | hk81 | hk81 | hk81 | hk81 | hk81 | hk81 | hk81 | hk81 | hk81 | hk81
  · rw [hk81]
    refine own_go (A := s₁.setTop (mkF m 7 #[.val (.int p1), .unset, .unset, .unset] [(.int (0 : Int32))])) (B := s₁.setTop (mkF m 9 #[.val (.int p1), .val (.int (0 : Int32)), .unset, .unset] [(.int (0 : Int32))])) (fun t k => ?_) ?_
    · show Steps p.tables e below (s₁.setTop (mkF m 7 #[.val (.int p1), .unset, .unset, .unset] [(.int (0 : Int32))])) _
      refine XS.istoreN X0.here hx rfl (hb hby at_7) rfl (l' := #[.val (.int p1), .val (.int (0 : Int32)), .unset, .unset]) rfl ?_
      show Steps p.tables e below (s₁.setTop (mkF m 8 #[.val (.int p1), .val (.int (0 : Int32)), .unset, .unset] [])) _
      refine XS.iloadN X0.here hx rfl (hb hby at_8) rfl ?_
      exact k
    obtain ⟨_, _, ⟨T82, L82, k82, n82⟩, -, X82, ⟨Lc82, hQ82, l82, y82, z82⟩, st82⟩ := Jvm.LawKit.callS X0 hx (y := (⟨"com/example/decider/decider/library/xpath/AxisLeadsToOneNodePinLaw", "pick", "(I)Lcom/example/decider/decider/library/xpath/Axis;"⟩ : MethodName)) hown (mvT hZ (hw _ (List.mem_of_getElem? (i := 1) rfl))) (mvT hZ (hw _ (List.mem_of_getElem? (i := 2) rfl))) (mvT hZ (hw _ (List.mem_of_getElem? (i := 3) rfl))) (mvT hZ (hw _ (List.mem_of_getElem? (i := 4) rfl))) (by decide) (backOf (W := 0) (rm1_0 l Z a0 hw [] s_Axis_SELF h0 n0 Z0 P0) hZ (hw _ (List.mem_of_getElem? (i := 4) rfl)) (hw _ (List.mem_of_getElem? (i := 3) rfl)) (by decide) (by decide)) (g := (mkF m 9 #[.val (.int p1), .val (.int (0 : Int32)), .unset, .unset] [(.int (0 : Int32))])) rfl (by rw [hml]; rfl) (argsL := [(.int (0 : Int32))]) (rest := []) (lenOf pd_0 rfl) rfl (by show 2 * 0 + _ ≤ _; exact Nat.le_of_eq rfl) (hb hby at_9) (fun _ _ => ⟨rfl, e0, (by decide : 0 + 0 ≤ _), (by decide : 0 + 0 ≤ _)⟩)
    dsimp only [Pt.U, Pt.locs, Pt.cells, Pt.slots] at X82 l82 y82 z82 st82 hQ82
    subst l82 y82 z82
    obtain ⟨rfl, Nq82, e82⟩ := hQ82
    have N82 := Fr.app N0 Nq82
    refine own_go (A := _) (B := T82.setTop (mkF m 12 #[.val (.int p1), .val (.int (0 : Int32)), .unset, .unset] [(.ref s_Axis_SELF)])) st82 ?_
    refine own_go (A := T82.setTop (mkF m 12 #[.val (.int p1), .val (.int (0 : Int32)), .unset, .unset] [(.ref s_Axis_SELF)])) (B := T82.setTop (mkF m 28 #[.val (.int p1), .val (.int (0 : Int32)), .val (.ref s_Axis_SELF), .val (.int (1 : Int32))] [(.ref s_Axis_SELF)])) (fun t k => ?_) ?_
    · show Steps p.tables e below (T82.setTop (mkF m 12 #[.val (.int p1), .val (.int (0 : Int32)), .unset, .unset] [(.ref s_Axis_SELF)])) _
      refine XS.astoreN X82.here hx rfl (hb hby at_12) rfl rfl (l' := #[.val (.int p1), .val (.int (0 : Int32)), .val (.ref s_Axis_SELF), .unset]) rfl ?_
      show Steps p.tables e below (T82.setTop (mkF m 13 #[.val (.int p1), .val (.int (0 : Int32)), .val (.ref s_Axis_SELF), .unset] [])) _
      refine XS.iconst X82.here hx rfl (hb hby at_13) ?_
      show Steps p.tables e below (T82.setTop (mkF m 14 #[.val (.int p1), .val (.int (0 : Int32)), .val (.ref s_Axis_SELF), .unset] [(.int (5 : Int32))])) _
      refine XS.iloadN X82.here hx rfl (hb hby at_14) rfl ?_
      show Steps p.tables e below (T82.setTop (mkF m 15 #[.val (.int p1), .val (.int (0 : Int32)), .val (.ref s_Axis_SELF), .unset] [(.int (0 : Int32)), (.int (5 : Int32))])) _
      refine XS.ishr X82.here hx rfl (hb hby at_15) rfl ?_
      show Steps p.tables e below (T82.setTop (mkF m 16 #[.val (.int p1), .val (.int (0 : Int32)), .val (.ref s_Axis_SELF), .unset] [(.int (5 : Int32))])) _
      refine XS.iconst X82.here hx rfl (hb hby at_16) ?_
      show Steps p.tables e below (T82.setTop (mkF m 17 #[.val (.int p1), .val (.int (0 : Int32)), .val (.ref s_Axis_SELF), .unset] [(.int (1 : Int32)), (.int (5 : Int32))])) _
      refine XS.iand X82.here hx rfl (hb hby at_17) rfl ?_
      show Steps p.tables e below (T82.setTop (mkF m 18 #[.val (.int p1), .val (.int (0 : Int32)), .val (.ref s_Axis_SELF), .unset] [(.int (1 : Int32))])) _
      refine XS.ifNo X82.here hx rfl (hb hby at_18) rfl ((if0 _ _).trans (feq (by decide : ¬ ((1 : Int32) = (0 : Int32)))).1) ?_
      show Steps p.tables e below (T82.setTop (mkF m 21 #[.val (.int p1), .val (.int (0 : Int32)), .val (.ref s_Axis_SELF), .unset] [])) _
      refine XS.iconst X82.here hx rfl (hb hby at_21) ?_
      show Steps p.tables e below (T82.setTop (mkF m 22 #[.val (.int p1), .val (.int (0 : Int32)), .val (.ref s_Axis_SELF), .unset] [(.int (1 : Int32))])) _
      refine XS.goto X82.here hx rfl (pc0 := 22) (pc' := 26) rfl (hb hby at_22) (by decide) (by decide) ?_
      show Steps p.tables e below (T82.setTop (mkF m 26 #[.val (.int p1), .val (.int (0 : Int32)), .val (.ref s_Axis_SELF), .unset] [(.int (1 : Int32))])) _
      refine XS.istoreN X82.here hx rfl (hb hby at_26) rfl (l' := #[.val (.int p1), .val (.int (0 : Int32)), .val (.ref s_Axis_SELF), .val (.int (1 : Int32))]) rfl ?_
      show Steps p.tables e below (T82.setTop (mkF m 27 #[.val (.int p1), .val (.int (0 : Int32)), .val (.ref s_Axis_SELF), .val (.int (1 : Int32))] [])) _
      refine XS.aloadN X82.here hx rfl (hb hby at_27) rfl rfl ?_
      exact k
    obtain ⟨cq84, kq84, q84a, q84b, q84c⟩ := isOf hZ e82 P1
    obtain ⟨_, _, ⟨T84, L84, k84, n84⟩, -, X84, ⟨Lc84, hQ84, l84, y84, z84⟩, st84⟩ := X82.virtualBack hx (y := (⟨"com/example/decider/decider/library/xpath/Axis", "leadsToOneNode", "()Z"⟩ : MethodName)) (z := (⟨"com/example/decider/decider/library/xpath/Axis", "leadsToOneNode", "()Z"⟩ : MethodName)) hown (mvT hZ (hw _ (List.mem_of_getElem? (i := 8) rfl))) (mvT hZ (hw _ (List.mem_of_getElem? (i := 9) rfl))) (notFace_of_selects (args := #[]) (mvT hZ (hw _ (List.mem_of_getElem? (i := 11) rfl)))) (mvT hZ (hw _ (List.mem_of_getElem? (i := 11) rfl))) (mvT hZ (hw _ (List.mem_of_getElem? (i := 10) rfl))) (by decide) (backOf (W := 0) (rm2 l Z a0 hw [] s_Axis_SELF s_Axis_SELF s_Axis_PARENT h0 n0 Z0 P0 P4) hZ (hw _ (List.mem_of_getElem? (i := 12) rfl)) (hw _ (List.mem_of_getElem? (i := 6) rfl)) (by decide) (by decide)) q84a q84c (g := (mkF m 28 #[.val (.int p1), .val (.int (0 : Int32)), .val (.ref s_Axis_SELF), .val (.int (1 : Int32))] [(.ref s_Axis_SELF)])) rfl (by rw [hml]; rfl) (Steps.refl _) (argsL := []) (rest := []) (lenOf pd_1 rfl) rfl (by show 2 * 0 + _ ≤ _; exact Nat.le_of_eq rfl) (hb hby at_28) (fun _ _ => ⟨rfl, e82, (by decide : 0 + 0 ≤ _), (by decide : 0 + 0 ≤ _)⟩)
    dsimp only [Pt.U, Pt.locs, Pt.cells, Pt.slots] at X84 l84 y84 z84 st84 hQ84
    subst l84 y84 z84
    obtain ⟨rfl, Nq84, e84⟩ := hQ84
    have N84 := Fr.app N82 Nq84
    refine own_go (A := _) (B := T84.setTop (mkF m 31 #[.val (.int p1), .val (.int (0 : Int32)), .val (.ref s_Axis_SELF), .val (.int (1 : Int32))] [(.int (frm2 s_Axis_SELF s_Axis_SELF s_Axis_PARENT))])) (fun t k => st84.trans k) ?_
    refine own_go (A := T84.setTop (mkF m 31 #[.val (.int p1), .val (.int (0 : Int32)), .val (.ref s_Axis_SELF), .val (.int (1 : Int32))] [(.int (frm2 s_Axis_SELF s_Axis_SELF s_Axis_PARENT))])) (B := T84.setTop (mkF m 32 #[.val (.int p1), .val (.int (0 : Int32)), .val (.ref s_Axis_SELF), .val (.int (1 : Int32))] [(.int (1 : Int32)), (.int (frm2 s_Axis_SELF s_Axis_SELF s_Axis_PARENT))])) (fun t k => ?_) ?_
    · show Steps p.tables e below (T84.setTop (mkF m 31 #[.val (.int p1), .val (.int (0 : Int32)), .val (.ref s_Axis_SELF), .val (.int (1 : Int32))] [(.int (frm2 s_Axis_SELF s_Axis_SELF s_Axis_PARENT))])) _
      refine XS.iloadN X84.here hx rfl (hb hby at_31) rfl ?_
      exact k
    have hc32_85 : ((frm2 s_Axis_SELF s_Axis_SELF s_Axis_PARENT) = (1 : Int32)) := by simp [frm2]
    refine own_go (A := T84.setTop (mkF m 32 #[.val (.int p1), .val (.int (0 : Int32)), .val (.ref s_Axis_SELF), .val (.int (1 : Int32))] [(.int (1 : Int32)), (.int (frm2 s_Axis_SELF s_Axis_SELF s_Axis_PARENT))])) (B := T84.setTop (mkF m 40 #[.val (.int p1), .val (.int (0 : Int32)), .val (.ref s_Axis_SELF), .val (.int (1 : Int32))] [(.int (1 : Int32))])) (fun t k => ?_) ?_
    · show Steps p.tables e below (T84.setTop (mkF m 32 #[.val (.int p1), .val (.int (0 : Int32)), .val (.ref s_Axis_SELF), .val (.int (1 : Int32))] [(.int (1 : Int32)), (.int (frm2 s_Axis_SELF s_Axis_SELF s_Axis_PARENT))])) _
      refine XS.icmpNo X84.here hx rfl (hb hby at_32) rfl (teq hc32_85).2 ?_
      show Steps p.tables e below (T84.setTop (mkF m 35 #[.val (.int p1), .val (.int (0 : Int32)), .val (.ref s_Axis_SELF), .val (.int (1 : Int32))] [])) _
      refine XS.iconst X84.here hx rfl (hb hby at_35) ?_
      show Steps p.tables e below (T84.setTop (mkF m 36 #[.val (.int p1), .val (.int (0 : Int32)), .val (.ref s_Axis_SELF), .val (.int (1 : Int32))] [(.int (1 : Int32))])) _
      refine XS.goto X84.here hx rfl (pc0 := 36) (pc' := 40) rfl (hb hby at_36) (by decide) (by decide) ?_
      exact k
    obtain ⟨fs, hr, hrun, hended, hW, hsame⟩ := X84.leave (v := some (.int (1 : Int32))) (fun h => by rw [Bd.returns] at h; cases h)
    refine ⟨_, _, ?_, hrun, hended, _, _, rfl, ?_, ⟨_, rfl⟩, hW, hsame.mono (by decide) (by decide)⟩
    · show Steps p.tables e below (T84.setTop (mkF m 40 #[.val (.int p1), .val (.int (0 : Int32)), .val (.ref s_Axis_SELF), .val (.int (1 : Int32))] [(.int (1 : Int32))])) _
      exact retN X84 hx (t := .boolean) Bd.returns (by simp) (hb hby at_40) hr
    · show Qrm0 Z p1 s_Axis_SELF s_Axis_CHILD s_Axis_PARENT s_Axis_DESCENDANT s_Axis_DESCENDANT_OR_SELF s_Axis_ANCESTOR s_Axis_ANCESTOR_OR_SELF s_Axis_FOLLOWING_SIBLING s_Axis_PRECEDING_SIBLING s_Axis_FOLLOWING s_Axis_PRECEDING h0 n0 _ T84.heap _
      rw [e84]
      exact ⟨rfl, N84⟩
  · rw [hk81]
    refine own_go (A := s₁.setTop (mkF m 7 #[.val (.int p1), .unset, .unset, .unset] [(.int (1 : Int32))])) (B := s₁.setTop (mkF m 9 #[.val (.int p1), .val (.int (1 : Int32)), .unset, .unset] [(.int (1 : Int32))])) (fun t k => ?_) ?_
    · show Steps p.tables e below (s₁.setTop (mkF m 7 #[.val (.int p1), .unset, .unset, .unset] [(.int (1 : Int32))])) _
      refine XS.istoreN X0.here hx rfl (hb hby at_7) rfl (l' := #[.val (.int p1), .val (.int (1 : Int32)), .unset, .unset]) rfl ?_
      show Steps p.tables e below (s₁.setTop (mkF m 8 #[.val (.int p1), .val (.int (1 : Int32)), .unset, .unset] [])) _
      refine XS.iloadN X0.here hx rfl (hb hby at_8) rfl ?_
      exact k
    obtain ⟨_, _, ⟨T86, L86, k86, n86⟩, -, X86, ⟨Lc86, hQ86, l86, y86, z86⟩, st86⟩ := Jvm.LawKit.callS X0 hx (y := (⟨"com/example/decider/decider/library/xpath/AxisLeadsToOneNodePinLaw", "pick", "(I)Lcom/example/decider/decider/library/xpath/Axis;"⟩ : MethodName)) hown (mvT hZ (hw _ (List.mem_of_getElem? (i := 1) rfl))) (mvT hZ (hw _ (List.mem_of_getElem? (i := 2) rfl))) (mvT hZ (hw _ (List.mem_of_getElem? (i := 3) rfl))) (mvT hZ (hw _ (List.mem_of_getElem? (i := 4) rfl))) (by decide) (backOf (W := 0) (rm1_1 l Z a0 hw [] s_Axis_CHILD h0 n0 Z0 P2) hZ (hw _ (List.mem_of_getElem? (i := 4) rfl)) (hw _ (List.mem_of_getElem? (i := 3) rfl)) (by decide) (by decide)) (g := (mkF m 9 #[.val (.int p1), .val (.int (1 : Int32)), .unset, .unset] [(.int (1 : Int32))])) rfl (by rw [hml]; rfl) (argsL := [(.int (1 : Int32))]) (rest := []) (lenOf pd_0 rfl) rfl (by show 2 * 0 + _ ≤ _; exact Nat.le_of_eq rfl) (hb hby at_9) (fun _ _ => ⟨rfl, e0, (by decide : 0 + 0 ≤ _), (by decide : 0 + 0 ≤ _)⟩)
    dsimp only [Pt.U, Pt.locs, Pt.cells, Pt.slots] at X86 l86 y86 z86 st86 hQ86
    subst l86 y86 z86
    obtain ⟨rfl, Nq86, e86⟩ := hQ86
    have N86 := Fr.app N0 Nq86
    refine own_go (A := _) (B := T86.setTop (mkF m 12 #[.val (.int p1), .val (.int (1 : Int32)), .unset, .unset] [(.ref s_Axis_CHILD)])) st86 ?_
    refine own_go (A := T86.setTop (mkF m 12 #[.val (.int p1), .val (.int (1 : Int32)), .unset, .unset] [(.ref s_Axis_CHILD)])) (B := T86.setTop (mkF m 28 #[.val (.int p1), .val (.int (1 : Int32)), .val (.ref s_Axis_CHILD), .val (.int (0 : Int32))] [(.ref s_Axis_CHILD)])) (fun t k => ?_) ?_
    · show Steps p.tables e below (T86.setTop (mkF m 12 #[.val (.int p1), .val (.int (1 : Int32)), .unset, .unset] [(.ref s_Axis_CHILD)])) _
      refine XS.astoreN X86.here hx rfl (hb hby at_12) rfl rfl (l' := #[.val (.int p1), .val (.int (1 : Int32)), .val (.ref s_Axis_CHILD), .unset]) rfl ?_
      show Steps p.tables e below (T86.setTop (mkF m 13 #[.val (.int p1), .val (.int (1 : Int32)), .val (.ref s_Axis_CHILD), .unset] [])) _
      refine XS.iconst X86.here hx rfl (hb hby at_13) ?_
      show Steps p.tables e below (T86.setTop (mkF m 14 #[.val (.int p1), .val (.int (1 : Int32)), .val (.ref s_Axis_CHILD), .unset] [(.int (5 : Int32))])) _
      refine XS.iloadN X86.here hx rfl (hb hby at_14) rfl ?_
      show Steps p.tables e below (T86.setTop (mkF m 15 #[.val (.int p1), .val (.int (1 : Int32)), .val (.ref s_Axis_CHILD), .unset] [(.int (1 : Int32)), (.int (5 : Int32))])) _
      refine XS.ishr X86.here hx rfl (hb hby at_15) rfl ?_
      show Steps p.tables e below (T86.setTop (mkF m 16 #[.val (.int p1), .val (.int (1 : Int32)), .val (.ref s_Axis_CHILD), .unset] [(.int (2 : Int32))])) _
      refine XS.iconst X86.here hx rfl (hb hby at_16) ?_
      show Steps p.tables e below (T86.setTop (mkF m 17 #[.val (.int p1), .val (.int (1 : Int32)), .val (.ref s_Axis_CHILD), .unset] [(.int (1 : Int32)), (.int (2 : Int32))])) _
      refine XS.iand X86.here hx rfl (hb hby at_17) rfl ?_
      show Steps p.tables e below (T86.setTop (mkF m 18 #[.val (.int p1), .val (.int (1 : Int32)), .val (.ref s_Axis_CHILD), .unset] [(.int (0 : Int32))])) _
      refine XS.ifYes X86.here hx rfl (pc0 := 18) (pc' := 25) rfl (hb hby at_18) rfl ((if0 _ _).trans (teq (rfl : (0 : Int32) = (0 : Int32))).1) (by decide) (by decide) ?_
      show Steps p.tables e below (T86.setTop (mkF m 25 #[.val (.int p1), .val (.int (1 : Int32)), .val (.ref s_Axis_CHILD), .unset] [])) _
      refine XS.iconst X86.here hx rfl (hb hby at_25) ?_
      show Steps p.tables e below (T86.setTop (mkF m 26 #[.val (.int p1), .val (.int (1 : Int32)), .val (.ref s_Axis_CHILD), .unset] [(.int (0 : Int32))])) _
      refine XS.istoreN X86.here hx rfl (hb hby at_26) rfl (l' := #[.val (.int p1), .val (.int (1 : Int32)), .val (.ref s_Axis_CHILD), .val (.int (0 : Int32))]) rfl ?_
      show Steps p.tables e below (T86.setTop (mkF m 27 #[.val (.int p1), .val (.int (1 : Int32)), .val (.ref s_Axis_CHILD), .val (.int (0 : Int32))] [])) _
      refine XS.aloadN X86.here hx rfl (hb hby at_27) rfl rfl ?_
      exact k
    obtain ⟨cq88, kq88, q88a, q88b, q88c⟩ := isOf hZ e86 P3
    obtain ⟨_, _, ⟨T88, L88, k88, n88⟩, -, X88, ⟨Lc88, hQ88, l88, y88, z88⟩, st88⟩ := X86.virtualBack hx (y := (⟨"com/example/decider/decider/library/xpath/Axis", "leadsToOneNode", "()Z"⟩ : MethodName)) (z := (⟨"com/example/decider/decider/library/xpath/Axis", "leadsToOneNode", "()Z"⟩ : MethodName)) hown (mvT hZ (hw _ (List.mem_of_getElem? (i := 8) rfl))) (mvT hZ (hw _ (List.mem_of_getElem? (i := 9) rfl))) (notFace_of_selects (args := #[]) (mvT hZ (hw _ (List.mem_of_getElem? (i := 11) rfl)))) (mvT hZ (hw _ (List.mem_of_getElem? (i := 11) rfl))) (mvT hZ (hw _ (List.mem_of_getElem? (i := 10) rfl))) (by decide) (backOf (W := 0) (rm2 l Z a0 hw [] s_Axis_CHILD s_Axis_SELF s_Axis_PARENT h0 n0 Z0 P0 P4) hZ (hw _ (List.mem_of_getElem? (i := 12) rfl)) (hw _ (List.mem_of_getElem? (i := 6) rfl)) (by decide) (by decide)) q88a q88c (g := (mkF m 28 #[.val (.int p1), .val (.int (1 : Int32)), .val (.ref s_Axis_CHILD), .val (.int (0 : Int32))] [(.ref s_Axis_CHILD)])) rfl (by rw [hml]; rfl) (Steps.refl _) (argsL := []) (rest := []) (lenOf pd_1 rfl) rfl (by show 2 * 0 + _ ≤ _; exact Nat.le_of_eq rfl) (hb hby at_28) (fun _ _ => ⟨rfl, e86, (by decide : 0 + 0 ≤ _), (by decide : 0 + 0 ≤ _)⟩)
    dsimp only [Pt.U, Pt.locs, Pt.cells, Pt.slots] at X88 l88 y88 z88 st88 hQ88
    subst l88 y88 z88
    obtain ⟨rfl, Nq88, e88⟩ := hQ88
    have N88 := Fr.app N86 Nq88
    refine own_go (A := _) (B := T88.setTop (mkF m 31 #[.val (.int p1), .val (.int (1 : Int32)), .val (.ref s_Axis_CHILD), .val (.int (0 : Int32))] [(.int (frm2 s_Axis_CHILD s_Axis_SELF s_Axis_PARENT))])) (fun t k => st88.trans k) ?_
    refine own_go (A := T88.setTop (mkF m 31 #[.val (.int p1), .val (.int (1 : Int32)), .val (.ref s_Axis_CHILD), .val (.int (0 : Int32))] [(.int (frm2 s_Axis_CHILD s_Axis_SELF s_Axis_PARENT))])) (B := T88.setTop (mkF m 32 #[.val (.int p1), .val (.int (1 : Int32)), .val (.ref s_Axis_CHILD), .val (.int (0 : Int32))] [(.int (0 : Int32)), (.int (frm2 s_Axis_CHILD s_Axis_SELF s_Axis_PARENT))])) (fun t k => ?_) ?_
    · show Steps p.tables e below (T88.setTop (mkF m 31 #[.val (.int p1), .val (.int (1 : Int32)), .val (.ref s_Axis_CHILD), .val (.int (0 : Int32))] [(.int (frm2 s_Axis_CHILD s_Axis_SELF s_Axis_PARENT))])) _
      refine XS.iloadN X88.here hx rfl (hb hby at_31) rfl ?_
      exact k
    have hc32_89 : ((frm2 s_Axis_CHILD s_Axis_SELF s_Axis_PARENT) = (0 : Int32)) := by simp [frm2, ne_s_Axis_CHILD_s_Axis_SELF, ne_s_Axis_CHILD_s_Axis_PARENT]
    refine own_go (A := T88.setTop (mkF m 32 #[.val (.int p1), .val (.int (1 : Int32)), .val (.ref s_Axis_CHILD), .val (.int (0 : Int32))] [(.int (0 : Int32)), (.int (frm2 s_Axis_CHILD s_Axis_SELF s_Axis_PARENT))])) (B := T88.setTop (mkF m 40 #[.val (.int p1), .val (.int (1 : Int32)), .val (.ref s_Axis_CHILD), .val (.int (0 : Int32))] [(.int (1 : Int32))])) (fun t k => ?_) ?_
    · show Steps p.tables e below (T88.setTop (mkF m 32 #[.val (.int p1), .val (.int (1 : Int32)), .val (.ref s_Axis_CHILD), .val (.int (0 : Int32))] [(.int (0 : Int32)), (.int (frm2 s_Axis_CHILD s_Axis_SELF s_Axis_PARENT))])) _
      refine XS.icmpNo X88.here hx rfl (hb hby at_32) rfl (teq hc32_89).2 ?_
      show Steps p.tables e below (T88.setTop (mkF m 35 #[.val (.int p1), .val (.int (1 : Int32)), .val (.ref s_Axis_CHILD), .val (.int (0 : Int32))] [])) _
      refine XS.iconst X88.here hx rfl (hb hby at_35) ?_
      show Steps p.tables e below (T88.setTop (mkF m 36 #[.val (.int p1), .val (.int (1 : Int32)), .val (.ref s_Axis_CHILD), .val (.int (0 : Int32))] [(.int (1 : Int32))])) _
      refine XS.goto X88.here hx rfl (pc0 := 36) (pc' := 40) rfl (hb hby at_36) (by decide) (by decide) ?_
      exact k
    obtain ⟨fs, hr, hrun, hended, hW, hsame⟩ := X88.leave (v := some (.int (1 : Int32))) (fun h => by rw [Bd.returns] at h; cases h)
    refine ⟨_, _, ?_, hrun, hended, _, _, rfl, ?_, ⟨_, rfl⟩, hW, hsame.mono (by decide) (by decide)⟩
    · show Steps p.tables e below (T88.setTop (mkF m 40 #[.val (.int p1), .val (.int (1 : Int32)), .val (.ref s_Axis_CHILD), .val (.int (0 : Int32))] [(.int (1 : Int32))])) _
      exact retN X88 hx (t := .boolean) Bd.returns (by simp) (hb hby at_40) hr
    · show Qrm0 Z p1 s_Axis_SELF s_Axis_CHILD s_Axis_PARENT s_Axis_DESCENDANT s_Axis_DESCENDANT_OR_SELF s_Axis_ANCESTOR s_Axis_ANCESTOR_OR_SELF s_Axis_FOLLOWING_SIBLING s_Axis_PRECEDING_SIBLING s_Axis_FOLLOWING s_Axis_PRECEDING h0 n0 _ T88.heap _
      rw [e88]
      exact ⟨rfl, N88⟩
  · rw [hk81]
    refine own_go (A := s₁.setTop (mkF m 7 #[.val (.int p1), .unset, .unset, .unset] [(.int (2 : Int32))])) (B := s₁.setTop (mkF m 9 #[.val (.int p1), .val (.int (2 : Int32)), .unset, .unset] [(.int (2 : Int32))])) (fun t k => ?_) ?_
    · show Steps p.tables e below (s₁.setTop (mkF m 7 #[.val (.int p1), .unset, .unset, .unset] [(.int (2 : Int32))])) _
      refine XS.istoreN X0.here hx rfl (hb hby at_7) rfl (l' := #[.val (.int p1), .val (.int (2 : Int32)), .unset, .unset]) rfl ?_
      show Steps p.tables e below (s₁.setTop (mkF m 8 #[.val (.int p1), .val (.int (2 : Int32)), .unset, .unset] [])) _
      refine XS.iloadN X0.here hx rfl (hb hby at_8) rfl ?_
      exact k
    obtain ⟨_, _, ⟨T90, L90, k90, n90⟩, -, X90, ⟨Lc90, hQ90, l90, y90, z90⟩, st90⟩ := Jvm.LawKit.callS X0 hx (y := (⟨"com/example/decider/decider/library/xpath/AxisLeadsToOneNodePinLaw", "pick", "(I)Lcom/example/decider/decider/library/xpath/Axis;"⟩ : MethodName)) hown (mvT hZ (hw _ (List.mem_of_getElem? (i := 1) rfl))) (mvT hZ (hw _ (List.mem_of_getElem? (i := 2) rfl))) (mvT hZ (hw _ (List.mem_of_getElem? (i := 3) rfl))) (mvT hZ (hw _ (List.mem_of_getElem? (i := 4) rfl))) (by decide) (backOf (W := 0) (rm1_2 l Z a0 hw [] s_Axis_PARENT h0 n0 Z0 P4) hZ (hw _ (List.mem_of_getElem? (i := 4) rfl)) (hw _ (List.mem_of_getElem? (i := 3) rfl)) (by decide) (by decide)) (g := (mkF m 9 #[.val (.int p1), .val (.int (2 : Int32)), .unset, .unset] [(.int (2 : Int32))])) rfl (by rw [hml]; rfl) (argsL := [(.int (2 : Int32))]) (rest := []) (lenOf pd_0 rfl) rfl (by show 2 * 0 + _ ≤ _; exact Nat.le_of_eq rfl) (hb hby at_9) (fun _ _ => ⟨rfl, e0, (by decide : 0 + 0 ≤ _), (by decide : 0 + 0 ≤ _)⟩)
    dsimp only [Pt.U, Pt.locs, Pt.cells, Pt.slots] at X90 l90 y90 z90 st90 hQ90
    subst l90 y90 z90
    obtain ⟨rfl, Nq90, e90⟩ := hQ90
    have N90 := Fr.app N0 Nq90
    refine own_go (A := _) (B := T90.setTop (mkF m 12 #[.val (.int p1), .val (.int (2 : Int32)), .unset, .unset] [(.ref s_Axis_PARENT)])) st90 ?_
    refine own_go (A := T90.setTop (mkF m 12 #[.val (.int p1), .val (.int (2 : Int32)), .unset, .unset] [(.ref s_Axis_PARENT)])) (B := T90.setTop (mkF m 28 #[.val (.int p1), .val (.int (2 : Int32)), .val (.ref s_Axis_PARENT), .val (.int (1 : Int32))] [(.ref s_Axis_PARENT)])) (fun t k => ?_) ?_
    · show Steps p.tables e below (T90.setTop (mkF m 12 #[.val (.int p1), .val (.int (2 : Int32)), .unset, .unset] [(.ref s_Axis_PARENT)])) _
      refine XS.astoreN X90.here hx rfl (hb hby at_12) rfl rfl (l' := #[.val (.int p1), .val (.int (2 : Int32)), .val (.ref s_Axis_PARENT), .unset]) rfl ?_
      show Steps p.tables e below (T90.setTop (mkF m 13 #[.val (.int p1), .val (.int (2 : Int32)), .val (.ref s_Axis_PARENT), .unset] [])) _
      refine XS.iconst X90.here hx rfl (hb hby at_13) ?_
      show Steps p.tables e below (T90.setTop (mkF m 14 #[.val (.int p1), .val (.int (2 : Int32)), .val (.ref s_Axis_PARENT), .unset] [(.int (5 : Int32))])) _
      refine XS.iloadN X90.here hx rfl (hb hby at_14) rfl ?_
      show Steps p.tables e below (T90.setTop (mkF m 15 #[.val (.int p1), .val (.int (2 : Int32)), .val (.ref s_Axis_PARENT), .unset] [(.int (2 : Int32)), (.int (5 : Int32))])) _
      refine XS.ishr X90.here hx rfl (hb hby at_15) rfl ?_
      show Steps p.tables e below (T90.setTop (mkF m 16 #[.val (.int p1), .val (.int (2 : Int32)), .val (.ref s_Axis_PARENT), .unset] [(.int (1 : Int32))])) _
      refine XS.iconst X90.here hx rfl (hb hby at_16) ?_
      show Steps p.tables e below (T90.setTop (mkF m 17 #[.val (.int p1), .val (.int (2 : Int32)), .val (.ref s_Axis_PARENT), .unset] [(.int (1 : Int32)), (.int (1 : Int32))])) _
      refine XS.iand X90.here hx rfl (hb hby at_17) rfl ?_
      show Steps p.tables e below (T90.setTop (mkF m 18 #[.val (.int p1), .val (.int (2 : Int32)), .val (.ref s_Axis_PARENT), .unset] [(.int (1 : Int32))])) _
      refine XS.ifNo X90.here hx rfl (hb hby at_18) rfl ((if0 _ _).trans (feq (by decide : ¬ ((1 : Int32) = (0 : Int32)))).1) ?_
      show Steps p.tables e below (T90.setTop (mkF m 21 #[.val (.int p1), .val (.int (2 : Int32)), .val (.ref s_Axis_PARENT), .unset] [])) _
      refine XS.iconst X90.here hx rfl (hb hby at_21) ?_
      show Steps p.tables e below (T90.setTop (mkF m 22 #[.val (.int p1), .val (.int (2 : Int32)), .val (.ref s_Axis_PARENT), .unset] [(.int (1 : Int32))])) _
      refine XS.goto X90.here hx rfl (pc0 := 22) (pc' := 26) rfl (hb hby at_22) (by decide) (by decide) ?_
      show Steps p.tables e below (T90.setTop (mkF m 26 #[.val (.int p1), .val (.int (2 : Int32)), .val (.ref s_Axis_PARENT), .unset] [(.int (1 : Int32))])) _
      refine XS.istoreN X90.here hx rfl (hb hby at_26) rfl (l' := #[.val (.int p1), .val (.int (2 : Int32)), .val (.ref s_Axis_PARENT), .val (.int (1 : Int32))]) rfl ?_
      show Steps p.tables e below (T90.setTop (mkF m 27 #[.val (.int p1), .val (.int (2 : Int32)), .val (.ref s_Axis_PARENT), .val (.int (1 : Int32))] [])) _
      refine XS.aloadN X90.here hx rfl (hb hby at_27) rfl rfl ?_
      exact k
    obtain ⟨cq92, kq92, q92a, q92b, q92c⟩ := isOf hZ e90 P5
    obtain ⟨_, _, ⟨T92, L92, k92, n92⟩, -, X92, ⟨Lc92, hQ92, l92, y92, z92⟩, st92⟩ := X90.virtualBack hx (y := (⟨"com/example/decider/decider/library/xpath/Axis", "leadsToOneNode", "()Z"⟩ : MethodName)) (z := (⟨"com/example/decider/decider/library/xpath/Axis", "leadsToOneNode", "()Z"⟩ : MethodName)) hown (mvT hZ (hw _ (List.mem_of_getElem? (i := 8) rfl))) (mvT hZ (hw _ (List.mem_of_getElem? (i := 9) rfl))) (notFace_of_selects (args := #[]) (mvT hZ (hw _ (List.mem_of_getElem? (i := 11) rfl)))) (mvT hZ (hw _ (List.mem_of_getElem? (i := 11) rfl))) (mvT hZ (hw _ (List.mem_of_getElem? (i := 10) rfl))) (by decide) (backOf (W := 0) (rm2 l Z a0 hw [] s_Axis_PARENT s_Axis_SELF s_Axis_PARENT h0 n0 Z0 P0 P4) hZ (hw _ (List.mem_of_getElem? (i := 12) rfl)) (hw _ (List.mem_of_getElem? (i := 6) rfl)) (by decide) (by decide)) q92a q92c (g := (mkF m 28 #[.val (.int p1), .val (.int (2 : Int32)), .val (.ref s_Axis_PARENT), .val (.int (1 : Int32))] [(.ref s_Axis_PARENT)])) rfl (by rw [hml]; rfl) (Steps.refl _) (argsL := []) (rest := []) (lenOf pd_1 rfl) rfl (by show 2 * 0 + _ ≤ _; exact Nat.le_of_eq rfl) (hb hby at_28) (fun _ _ => ⟨rfl, e90, (by decide : 0 + 0 ≤ _), (by decide : 0 + 0 ≤ _)⟩)
    dsimp only [Pt.U, Pt.locs, Pt.cells, Pt.slots] at X92 l92 y92 z92 st92 hQ92
    subst l92 y92 z92
    obtain ⟨rfl, Nq92, e92⟩ := hQ92
    have N92 := Fr.app N90 Nq92
    refine own_go (A := _) (B := T92.setTop (mkF m 31 #[.val (.int p1), .val (.int (2 : Int32)), .val (.ref s_Axis_PARENT), .val (.int (1 : Int32))] [(.int (frm2 s_Axis_PARENT s_Axis_SELF s_Axis_PARENT))])) (fun t k => st92.trans k) ?_
    refine own_go (A := T92.setTop (mkF m 31 #[.val (.int p1), .val (.int (2 : Int32)), .val (.ref s_Axis_PARENT), .val (.int (1 : Int32))] [(.int (frm2 s_Axis_PARENT s_Axis_SELF s_Axis_PARENT))])) (B := T92.setTop (mkF m 32 #[.val (.int p1), .val (.int (2 : Int32)), .val (.ref s_Axis_PARENT), .val (.int (1 : Int32))] [(.int (1 : Int32)), (.int (frm2 s_Axis_PARENT s_Axis_SELF s_Axis_PARENT))])) (fun t k => ?_) ?_
    · show Steps p.tables e below (T92.setTop (mkF m 31 #[.val (.int p1), .val (.int (2 : Int32)), .val (.ref s_Axis_PARENT), .val (.int (1 : Int32))] [(.int (frm2 s_Axis_PARENT s_Axis_SELF s_Axis_PARENT))])) _
      refine XS.iloadN X92.here hx rfl (hb hby at_31) rfl ?_
      exact k
    have hc32_93 : ((frm2 s_Axis_PARENT s_Axis_SELF s_Axis_PARENT) = (1 : Int32)) := by simp [frm2, ne_s_Axis_PARENT_s_Axis_SELF]
    refine own_go (A := T92.setTop (mkF m 32 #[.val (.int p1), .val (.int (2 : Int32)), .val (.ref s_Axis_PARENT), .val (.int (1 : Int32))] [(.int (1 : Int32)), (.int (frm2 s_Axis_PARENT s_Axis_SELF s_Axis_PARENT))])) (B := T92.setTop (mkF m 40 #[.val (.int p1), .val (.int (2 : Int32)), .val (.ref s_Axis_PARENT), .val (.int (1 : Int32))] [(.int (1 : Int32))])) (fun t k => ?_) ?_
    · show Steps p.tables e below (T92.setTop (mkF m 32 #[.val (.int p1), .val (.int (2 : Int32)), .val (.ref s_Axis_PARENT), .val (.int (1 : Int32))] [(.int (1 : Int32)), (.int (frm2 s_Axis_PARENT s_Axis_SELF s_Axis_PARENT))])) _
      refine XS.icmpNo X92.here hx rfl (hb hby at_32) rfl (teq hc32_93).2 ?_
      show Steps p.tables e below (T92.setTop (mkF m 35 #[.val (.int p1), .val (.int (2 : Int32)), .val (.ref s_Axis_PARENT), .val (.int (1 : Int32))] [])) _
      refine XS.iconst X92.here hx rfl (hb hby at_35) ?_
      show Steps p.tables e below (T92.setTop (mkF m 36 #[.val (.int p1), .val (.int (2 : Int32)), .val (.ref s_Axis_PARENT), .val (.int (1 : Int32))] [(.int (1 : Int32))])) _
      refine XS.goto X92.here hx rfl (pc0 := 36) (pc' := 40) rfl (hb hby at_36) (by decide) (by decide) ?_
      exact k
    obtain ⟨fs, hr, hrun, hended, hW, hsame⟩ := X92.leave (v := some (.int (1 : Int32))) (fun h => by rw [Bd.returns] at h; cases h)
    refine ⟨_, _, ?_, hrun, hended, _, _, rfl, ?_, ⟨_, rfl⟩, hW, hsame.mono (by decide) (by decide)⟩
    · show Steps p.tables e below (T92.setTop (mkF m 40 #[.val (.int p1), .val (.int (2 : Int32)), .val (.ref s_Axis_PARENT), .val (.int (1 : Int32))] [(.int (1 : Int32))])) _
      exact retN X92 hx (t := .boolean) Bd.returns (by simp) (hb hby at_40) hr
    · show Qrm0 Z p1 s_Axis_SELF s_Axis_CHILD s_Axis_PARENT s_Axis_DESCENDANT s_Axis_DESCENDANT_OR_SELF s_Axis_ANCESTOR s_Axis_ANCESTOR_OR_SELF s_Axis_FOLLOWING_SIBLING s_Axis_PRECEDING_SIBLING s_Axis_FOLLOWING s_Axis_PRECEDING h0 n0 _ T92.heap _
      rw [e92]
      exact ⟨rfl, N92⟩
  · rw [hk81]
    refine own_go (A := s₁.setTop (mkF m 7 #[.val (.int p1), .unset, .unset, .unset] [(.int (3 : Int32))])) (B := s₁.setTop (mkF m 9 #[.val (.int p1), .val (.int (3 : Int32)), .unset, .unset] [(.int (3 : Int32))])) (fun t k => ?_) ?_
    · show Steps p.tables e below (s₁.setTop (mkF m 7 #[.val (.int p1), .unset, .unset, .unset] [(.int (3 : Int32))])) _
      refine XS.istoreN X0.here hx rfl (hb hby at_7) rfl (l' := #[.val (.int p1), .val (.int (3 : Int32)), .unset, .unset]) rfl ?_
      show Steps p.tables e below (s₁.setTop (mkF m 8 #[.val (.int p1), .val (.int (3 : Int32)), .unset, .unset] [])) _
      refine XS.iloadN X0.here hx rfl (hb hby at_8) rfl ?_
      exact k
    obtain ⟨_, _, ⟨T94, L94, k94, n94⟩, -, X94, ⟨Lc94, hQ94, l94, y94, z94⟩, st94⟩ := Jvm.LawKit.callS X0 hx (y := (⟨"com/example/decider/decider/library/xpath/AxisLeadsToOneNodePinLaw", "pick", "(I)Lcom/example/decider/decider/library/xpath/Axis;"⟩ : MethodName)) hown (mvT hZ (hw _ (List.mem_of_getElem? (i := 1) rfl))) (mvT hZ (hw _ (List.mem_of_getElem? (i := 2) rfl))) (mvT hZ (hw _ (List.mem_of_getElem? (i := 3) rfl))) (mvT hZ (hw _ (List.mem_of_getElem? (i := 4) rfl))) (by decide) (backOf (W := 0) (rm1_3 l Z a0 hw [] s_Axis_DESCENDANT h0 n0 Z0 P6) hZ (hw _ (List.mem_of_getElem? (i := 4) rfl)) (hw _ (List.mem_of_getElem? (i := 3) rfl)) (by decide) (by decide)) (g := (mkF m 9 #[.val (.int p1), .val (.int (3 : Int32)), .unset, .unset] [(.int (3 : Int32))])) rfl (by rw [hml]; rfl) (argsL := [(.int (3 : Int32))]) (rest := []) (lenOf pd_0 rfl) rfl (by show 2 * 0 + _ ≤ _; exact Nat.le_of_eq rfl) (hb hby at_9) (fun _ _ => ⟨rfl, e0, (by decide : 0 + 0 ≤ _), (by decide : 0 + 0 ≤ _)⟩)
    dsimp only [Pt.U, Pt.locs, Pt.cells, Pt.slots] at X94 l94 y94 z94 st94 hQ94
    subst l94 y94 z94
    obtain ⟨rfl, Nq94, e94⟩ := hQ94
    have N94 := Fr.app N0 Nq94
    refine own_go (A := _) (B := T94.setTop (mkF m 12 #[.val (.int p1), .val (.int (3 : Int32)), .unset, .unset] [(.ref s_Axis_DESCENDANT)])) st94 ?_
    refine own_go (A := T94.setTop (mkF m 12 #[.val (.int p1), .val (.int (3 : Int32)), .unset, .unset] [(.ref s_Axis_DESCENDANT)])) (B := T94.setTop (mkF m 28 #[.val (.int p1), .val (.int (3 : Int32)), .val (.ref s_Axis_DESCENDANT), .val (.int (0 : Int32))] [(.ref s_Axis_DESCENDANT)])) (fun t k => ?_) ?_
    · show Steps p.tables e below (T94.setTop (mkF m 12 #[.val (.int p1), .val (.int (3 : Int32)), .unset, .unset] [(.ref s_Axis_DESCENDANT)])) _
      refine XS.astoreN X94.here hx rfl (hb hby at_12) rfl rfl (l' := #[.val (.int p1), .val (.int (3 : Int32)), .val (.ref s_Axis_DESCENDANT), .unset]) rfl ?_
      show Steps p.tables e below (T94.setTop (mkF m 13 #[.val (.int p1), .val (.int (3 : Int32)), .val (.ref s_Axis_DESCENDANT), .unset] [])) _
      refine XS.iconst X94.here hx rfl (hb hby at_13) ?_
      show Steps p.tables e below (T94.setTop (mkF m 14 #[.val (.int p1), .val (.int (3 : Int32)), .val (.ref s_Axis_DESCENDANT), .unset] [(.int (5 : Int32))])) _
      refine XS.iloadN X94.here hx rfl (hb hby at_14) rfl ?_
      show Steps p.tables e below (T94.setTop (mkF m 15 #[.val (.int p1), .val (.int (3 : Int32)), .val (.ref s_Axis_DESCENDANT), .unset] [(.int (3 : Int32)), (.int (5 : Int32))])) _
      refine XS.ishr X94.here hx rfl (hb hby at_15) rfl ?_
      show Steps p.tables e below (T94.setTop (mkF m 16 #[.val (.int p1), .val (.int (3 : Int32)), .val (.ref s_Axis_DESCENDANT), .unset] [(.int (0 : Int32))])) _
      refine XS.iconst X94.here hx rfl (hb hby at_16) ?_
      show Steps p.tables e below (T94.setTop (mkF m 17 #[.val (.int p1), .val (.int (3 : Int32)), .val (.ref s_Axis_DESCENDANT), .unset] [(.int (1 : Int32)), (.int (0 : Int32))])) _
      refine XS.iand X94.here hx rfl (hb hby at_17) rfl ?_
      show Steps p.tables e below (T94.setTop (mkF m 18 #[.val (.int p1), .val (.int (3 : Int32)), .val (.ref s_Axis_DESCENDANT), .unset] [(.int (0 : Int32))])) _
      refine XS.ifYes X94.here hx rfl (pc0 := 18) (pc' := 25) rfl (hb hby at_18) rfl ((if0 _ _).trans (teq (rfl : (0 : Int32) = (0 : Int32))).1) (by decide) (by decide) ?_
      show Steps p.tables e below (T94.setTop (mkF m 25 #[.val (.int p1), .val (.int (3 : Int32)), .val (.ref s_Axis_DESCENDANT), .unset] [])) _
      refine XS.iconst X94.here hx rfl (hb hby at_25) ?_
      show Steps p.tables e below (T94.setTop (mkF m 26 #[.val (.int p1), .val (.int (3 : Int32)), .val (.ref s_Axis_DESCENDANT), .unset] [(.int (0 : Int32))])) _
      refine XS.istoreN X94.here hx rfl (hb hby at_26) rfl (l' := #[.val (.int p1), .val (.int (3 : Int32)), .val (.ref s_Axis_DESCENDANT), .val (.int (0 : Int32))]) rfl ?_
      show Steps p.tables e below (T94.setTop (mkF m 27 #[.val (.int p1), .val (.int (3 : Int32)), .val (.ref s_Axis_DESCENDANT), .val (.int (0 : Int32))] [])) _
      refine XS.aloadN X94.here hx rfl (hb hby at_27) rfl rfl ?_
      exact k
    obtain ⟨cq96, kq96, q96a, q96b, q96c⟩ := isOf hZ e94 P7
    obtain ⟨_, _, ⟨T96, L96, k96, n96⟩, -, X96, ⟨Lc96, hQ96, l96, y96, z96⟩, st96⟩ := X94.virtualBack hx (y := (⟨"com/example/decider/decider/library/xpath/Axis", "leadsToOneNode", "()Z"⟩ : MethodName)) (z := (⟨"com/example/decider/decider/library/xpath/Axis", "leadsToOneNode", "()Z"⟩ : MethodName)) hown (mvT hZ (hw _ (List.mem_of_getElem? (i := 8) rfl))) (mvT hZ (hw _ (List.mem_of_getElem? (i := 9) rfl))) (notFace_of_selects (args := #[]) (mvT hZ (hw _ (List.mem_of_getElem? (i := 11) rfl)))) (mvT hZ (hw _ (List.mem_of_getElem? (i := 11) rfl))) (mvT hZ (hw _ (List.mem_of_getElem? (i := 10) rfl))) (by decide) (backOf (W := 0) (rm2 l Z a0 hw [] s_Axis_DESCENDANT s_Axis_SELF s_Axis_PARENT h0 n0 Z0 P0 P4) hZ (hw _ (List.mem_of_getElem? (i := 12) rfl)) (hw _ (List.mem_of_getElem? (i := 6) rfl)) (by decide) (by decide)) q96a q96c (g := (mkF m 28 #[.val (.int p1), .val (.int (3 : Int32)), .val (.ref s_Axis_DESCENDANT), .val (.int (0 : Int32))] [(.ref s_Axis_DESCENDANT)])) rfl (by rw [hml]; rfl) (Steps.refl _) (argsL := []) (rest := []) (lenOf pd_1 rfl) rfl (by show 2 * 0 + _ ≤ _; exact Nat.le_of_eq rfl) (hb hby at_28) (fun _ _ => ⟨rfl, e94, (by decide : 0 + 0 ≤ _), (by decide : 0 + 0 ≤ _)⟩)
    dsimp only [Pt.U, Pt.locs, Pt.cells, Pt.slots] at X96 l96 y96 z96 st96 hQ96
    subst l96 y96 z96
    obtain ⟨rfl, Nq96, e96⟩ := hQ96
    have N96 := Fr.app N94 Nq96
    refine own_go (A := _) (B := T96.setTop (mkF m 31 #[.val (.int p1), .val (.int (3 : Int32)), .val (.ref s_Axis_DESCENDANT), .val (.int (0 : Int32))] [(.int (frm2 s_Axis_DESCENDANT s_Axis_SELF s_Axis_PARENT))])) (fun t k => st96.trans k) ?_
    refine own_go (A := T96.setTop (mkF m 31 #[.val (.int p1), .val (.int (3 : Int32)), .val (.ref s_Axis_DESCENDANT), .val (.int (0 : Int32))] [(.int (frm2 s_Axis_DESCENDANT s_Axis_SELF s_Axis_PARENT))])) (B := T96.setTop (mkF m 32 #[.val (.int p1), .val (.int (3 : Int32)), .val (.ref s_Axis_DESCENDANT), .val (.int (0 : Int32))] [(.int (0 : Int32)), (.int (frm2 s_Axis_DESCENDANT s_Axis_SELF s_Axis_PARENT))])) (fun t k => ?_) ?_
    · show Steps p.tables e below (T96.setTop (mkF m 31 #[.val (.int p1), .val (.int (3 : Int32)), .val (.ref s_Axis_DESCENDANT), .val (.int (0 : Int32))] [(.int (frm2 s_Axis_DESCENDANT s_Axis_SELF s_Axis_PARENT))])) _
      refine XS.iloadN X96.here hx rfl (hb hby at_31) rfl ?_
      exact k
    have hc32_97 : ((frm2 s_Axis_DESCENDANT s_Axis_SELF s_Axis_PARENT) = (0 : Int32)) := by simp [frm2, ne_s_Axis_DESCENDANT_s_Axis_SELF, ne_s_Axis_DESCENDANT_s_Axis_PARENT]
    refine own_go (A := T96.setTop (mkF m 32 #[.val (.int p1), .val (.int (3 : Int32)), .val (.ref s_Axis_DESCENDANT), .val (.int (0 : Int32))] [(.int (0 : Int32)), (.int (frm2 s_Axis_DESCENDANT s_Axis_SELF s_Axis_PARENT))])) (B := T96.setTop (mkF m 40 #[.val (.int p1), .val (.int (3 : Int32)), .val (.ref s_Axis_DESCENDANT), .val (.int (0 : Int32))] [(.int (1 : Int32))])) (fun t k => ?_) ?_
    · show Steps p.tables e below (T96.setTop (mkF m 32 #[.val (.int p1), .val (.int (3 : Int32)), .val (.ref s_Axis_DESCENDANT), .val (.int (0 : Int32))] [(.int (0 : Int32)), (.int (frm2 s_Axis_DESCENDANT s_Axis_SELF s_Axis_PARENT))])) _
      refine XS.icmpNo X96.here hx rfl (hb hby at_32) rfl (teq hc32_97).2 ?_
      show Steps p.tables e below (T96.setTop (mkF m 35 #[.val (.int p1), .val (.int (3 : Int32)), .val (.ref s_Axis_DESCENDANT), .val (.int (0 : Int32))] [])) _
      refine XS.iconst X96.here hx rfl (hb hby at_35) ?_
      show Steps p.tables e below (T96.setTop (mkF m 36 #[.val (.int p1), .val (.int (3 : Int32)), .val (.ref s_Axis_DESCENDANT), .val (.int (0 : Int32))] [(.int (1 : Int32))])) _
      refine XS.goto X96.here hx rfl (pc0 := 36) (pc' := 40) rfl (hb hby at_36) (by decide) (by decide) ?_
      exact k
    obtain ⟨fs, hr, hrun, hended, hW, hsame⟩ := X96.leave (v := some (.int (1 : Int32))) (fun h => by rw [Bd.returns] at h; cases h)
    refine ⟨_, _, ?_, hrun, hended, _, _, rfl, ?_, ⟨_, rfl⟩, hW, hsame.mono (by decide) (by decide)⟩
    · show Steps p.tables e below (T96.setTop (mkF m 40 #[.val (.int p1), .val (.int (3 : Int32)), .val (.ref s_Axis_DESCENDANT), .val (.int (0 : Int32))] [(.int (1 : Int32))])) _
      exact retN X96 hx (t := .boolean) Bd.returns (by simp) (hb hby at_40) hr
    · show Qrm0 Z p1 s_Axis_SELF s_Axis_CHILD s_Axis_PARENT s_Axis_DESCENDANT s_Axis_DESCENDANT_OR_SELF s_Axis_ANCESTOR s_Axis_ANCESTOR_OR_SELF s_Axis_FOLLOWING_SIBLING s_Axis_PRECEDING_SIBLING s_Axis_FOLLOWING s_Axis_PRECEDING h0 n0 _ T96.heap _
      rw [e96]
      exact ⟨rfl, N96⟩
  · rw [hk81]
    refine own_go (A := s₁.setTop (mkF m 7 #[.val (.int p1), .unset, .unset, .unset] [(.int (4 : Int32))])) (B := s₁.setTop (mkF m 9 #[.val (.int p1), .val (.int (4 : Int32)), .unset, .unset] [(.int (4 : Int32))])) (fun t k => ?_) ?_
    · show Steps p.tables e below (s₁.setTop (mkF m 7 #[.val (.int p1), .unset, .unset, .unset] [(.int (4 : Int32))])) _
      refine XS.istoreN X0.here hx rfl (hb hby at_7) rfl (l' := #[.val (.int p1), .val (.int (4 : Int32)), .unset, .unset]) rfl ?_
      show Steps p.tables e below (s₁.setTop (mkF m 8 #[.val (.int p1), .val (.int (4 : Int32)), .unset, .unset] [])) _
      refine XS.iloadN X0.here hx rfl (hb hby at_8) rfl ?_
      exact k
    obtain ⟨_, _, ⟨T98, L98, k98, n98⟩, -, X98, ⟨Lc98, hQ98, l98, y98, z98⟩, st98⟩ := Jvm.LawKit.callS X0 hx (y := (⟨"com/example/decider/decider/library/xpath/AxisLeadsToOneNodePinLaw", "pick", "(I)Lcom/example/decider/decider/library/xpath/Axis;"⟩ : MethodName)) hown (mvT hZ (hw _ (List.mem_of_getElem? (i := 1) rfl))) (mvT hZ (hw _ (List.mem_of_getElem? (i := 2) rfl))) (mvT hZ (hw _ (List.mem_of_getElem? (i := 3) rfl))) (mvT hZ (hw _ (List.mem_of_getElem? (i := 4) rfl))) (by decide) (backOf (W := 0) (rm1_4 l Z a0 hw [] s_Axis_DESCENDANT_OR_SELF h0 n0 Z0 P8) hZ (hw _ (List.mem_of_getElem? (i := 4) rfl)) (hw _ (List.mem_of_getElem? (i := 3) rfl)) (by decide) (by decide)) (g := (mkF m 9 #[.val (.int p1), .val (.int (4 : Int32)), .unset, .unset] [(.int (4 : Int32))])) rfl (by rw [hml]; rfl) (argsL := [(.int (4 : Int32))]) (rest := []) (lenOf pd_0 rfl) rfl (by show 2 * 0 + _ ≤ _; exact Nat.le_of_eq rfl) (hb hby at_9) (fun _ _ => ⟨rfl, e0, (by decide : 0 + 0 ≤ _), (by decide : 0 + 0 ≤ _)⟩)
    dsimp only [Pt.U, Pt.locs, Pt.cells, Pt.slots] at X98 l98 y98 z98 st98 hQ98
    subst l98 y98 z98
    obtain ⟨rfl, Nq98, e98⟩ := hQ98
    have N98 := Fr.app N0 Nq98
    refine own_go (A := _) (B := T98.setTop (mkF m 12 #[.val (.int p1), .val (.int (4 : Int32)), .unset, .unset] [(.ref s_Axis_DESCENDANT_OR_SELF)])) st98 ?_
    refine own_go (A := T98.setTop (mkF m 12 #[.val (.int p1), .val (.int (4 : Int32)), .unset, .unset] [(.ref s_Axis_DESCENDANT_OR_SELF)])) (B := T98.setTop (mkF m 28 #[.val (.int p1), .val (.int (4 : Int32)), .val (.ref s_Axis_DESCENDANT_OR_SELF), .val (.int (0 : Int32))] [(.ref s_Axis_DESCENDANT_OR_SELF)])) (fun t k => ?_) ?_
    · show Steps p.tables e below (T98.setTop (mkF m 12 #[.val (.int p1), .val (.int (4 : Int32)), .unset, .unset] [(.ref s_Axis_DESCENDANT_OR_SELF)])) _
      refine XS.astoreN X98.here hx rfl (hb hby at_12) rfl rfl (l' := #[.val (.int p1), .val (.int (4 : Int32)), .val (.ref s_Axis_DESCENDANT_OR_SELF), .unset]) rfl ?_
      show Steps p.tables e below (T98.setTop (mkF m 13 #[.val (.int p1), .val (.int (4 : Int32)), .val (.ref s_Axis_DESCENDANT_OR_SELF), .unset] [])) _
      refine XS.iconst X98.here hx rfl (hb hby at_13) ?_
      show Steps p.tables e below (T98.setTop (mkF m 14 #[.val (.int p1), .val (.int (4 : Int32)), .val (.ref s_Axis_DESCENDANT_OR_SELF), .unset] [(.int (5 : Int32))])) _
      refine XS.iloadN X98.here hx rfl (hb hby at_14) rfl ?_
      show Steps p.tables e below (T98.setTop (mkF m 15 #[.val (.int p1), .val (.int (4 : Int32)), .val (.ref s_Axis_DESCENDANT_OR_SELF), .unset] [(.int (4 : Int32)), (.int (5 : Int32))])) _
      refine XS.ishr X98.here hx rfl (hb hby at_15) rfl ?_
      show Steps p.tables e below (T98.setTop (mkF m 16 #[.val (.int p1), .val (.int (4 : Int32)), .val (.ref s_Axis_DESCENDANT_OR_SELF), .unset] [(.int (0 : Int32))])) _
      refine XS.iconst X98.here hx rfl (hb hby at_16) ?_
      show Steps p.tables e below (T98.setTop (mkF m 17 #[.val (.int p1), .val (.int (4 : Int32)), .val (.ref s_Axis_DESCENDANT_OR_SELF), .unset] [(.int (1 : Int32)), (.int (0 : Int32))])) _
      refine XS.iand X98.here hx rfl (hb hby at_17) rfl ?_
      show Steps p.tables e below (T98.setTop (mkF m 18 #[.val (.int p1), .val (.int (4 : Int32)), .val (.ref s_Axis_DESCENDANT_OR_SELF), .unset] [(.int (0 : Int32))])) _
      refine XS.ifYes X98.here hx rfl (pc0 := 18) (pc' := 25) rfl (hb hby at_18) rfl ((if0 _ _).trans (teq (rfl : (0 : Int32) = (0 : Int32))).1) (by decide) (by decide) ?_
      show Steps p.tables e below (T98.setTop (mkF m 25 #[.val (.int p1), .val (.int (4 : Int32)), .val (.ref s_Axis_DESCENDANT_OR_SELF), .unset] [])) _
      refine XS.iconst X98.here hx rfl (hb hby at_25) ?_
      show Steps p.tables e below (T98.setTop (mkF m 26 #[.val (.int p1), .val (.int (4 : Int32)), .val (.ref s_Axis_DESCENDANT_OR_SELF), .unset] [(.int (0 : Int32))])) _
      refine XS.istoreN X98.here hx rfl (hb hby at_26) rfl (l' := #[.val (.int p1), .val (.int (4 : Int32)), .val (.ref s_Axis_DESCENDANT_OR_SELF), .val (.int (0 : Int32))]) rfl ?_
      show Steps p.tables e below (T98.setTop (mkF m 27 #[.val (.int p1), .val (.int (4 : Int32)), .val (.ref s_Axis_DESCENDANT_OR_SELF), .val (.int (0 : Int32))] [])) _
      refine XS.aloadN X98.here hx rfl (hb hby at_27) rfl rfl ?_
      exact k
    obtain ⟨cq100, kq100, q100a, q100b, q100c⟩ := isOf hZ e98 P9
    obtain ⟨_, _, ⟨T100, L100, k100, n100⟩, -, X100, ⟨Lc100, hQ100, l100, y100, z100⟩, st100⟩ := X98.virtualBack hx (y := (⟨"com/example/decider/decider/library/xpath/Axis", "leadsToOneNode", "()Z"⟩ : MethodName)) (z := (⟨"com/example/decider/decider/library/xpath/Axis", "leadsToOneNode", "()Z"⟩ : MethodName)) hown (mvT hZ (hw _ (List.mem_of_getElem? (i := 8) rfl))) (mvT hZ (hw _ (List.mem_of_getElem? (i := 9) rfl))) (notFace_of_selects (args := #[]) (mvT hZ (hw _ (List.mem_of_getElem? (i := 11) rfl)))) (mvT hZ (hw _ (List.mem_of_getElem? (i := 11) rfl))) (mvT hZ (hw _ (List.mem_of_getElem? (i := 10) rfl))) (by decide) (backOf (W := 0) (rm2 l Z a0 hw [] s_Axis_DESCENDANT_OR_SELF s_Axis_SELF s_Axis_PARENT h0 n0 Z0 P0 P4) hZ (hw _ (List.mem_of_getElem? (i := 12) rfl)) (hw _ (List.mem_of_getElem? (i := 6) rfl)) (by decide) (by decide)) q100a q100c (g := (mkF m 28 #[.val (.int p1), .val (.int (4 : Int32)), .val (.ref s_Axis_DESCENDANT_OR_SELF), .val (.int (0 : Int32))] [(.ref s_Axis_DESCENDANT_OR_SELF)])) rfl (by rw [hml]; rfl) (Steps.refl _) (argsL := []) (rest := []) (lenOf pd_1 rfl) rfl (by show 2 * 0 + _ ≤ _; exact Nat.le_of_eq rfl) (hb hby at_28) (fun _ _ => ⟨rfl, e98, (by decide : 0 + 0 ≤ _), (by decide : 0 + 0 ≤ _)⟩)
    dsimp only [Pt.U, Pt.locs, Pt.cells, Pt.slots] at X100 l100 y100 z100 st100 hQ100
    subst l100 y100 z100
    obtain ⟨rfl, Nq100, e100⟩ := hQ100
    have N100 := Fr.app N98 Nq100
    refine own_go (A := _) (B := T100.setTop (mkF m 31 #[.val (.int p1), .val (.int (4 : Int32)), .val (.ref s_Axis_DESCENDANT_OR_SELF), .val (.int (0 : Int32))] [(.int (frm2 s_Axis_DESCENDANT_OR_SELF s_Axis_SELF s_Axis_PARENT))])) (fun t k => st100.trans k) ?_
    refine own_go (A := T100.setTop (mkF m 31 #[.val (.int p1), .val (.int (4 : Int32)), .val (.ref s_Axis_DESCENDANT_OR_SELF), .val (.int (0 : Int32))] [(.int (frm2 s_Axis_DESCENDANT_OR_SELF s_Axis_SELF s_Axis_PARENT))])) (B := T100.setTop (mkF m 32 #[.val (.int p1), .val (.int (4 : Int32)), .val (.ref s_Axis_DESCENDANT_OR_SELF), .val (.int (0 : Int32))] [(.int (0 : Int32)), (.int (frm2 s_Axis_DESCENDANT_OR_SELF s_Axis_SELF s_Axis_PARENT))])) (fun t k => ?_) ?_
    · show Steps p.tables e below (T100.setTop (mkF m 31 #[.val (.int p1), .val (.int (4 : Int32)), .val (.ref s_Axis_DESCENDANT_OR_SELF), .val (.int (0 : Int32))] [(.int (frm2 s_Axis_DESCENDANT_OR_SELF s_Axis_SELF s_Axis_PARENT))])) _
      refine XS.iloadN X100.here hx rfl (hb hby at_31) rfl ?_
      exact k
    have hc32_101 : ((frm2 s_Axis_DESCENDANT_OR_SELF s_Axis_SELF s_Axis_PARENT) = (0 : Int32)) := by simp [frm2, ne_s_Axis_DESCENDANT_OR_SELF_s_Axis_SELF, ne_s_Axis_DESCENDANT_OR_SELF_s_Axis_PARENT]
    refine own_go (A := T100.setTop (mkF m 32 #[.val (.int p1), .val (.int (4 : Int32)), .val (.ref s_Axis_DESCENDANT_OR_SELF), .val (.int (0 : Int32))] [(.int (0 : Int32)), (.int (frm2 s_Axis_DESCENDANT_OR_SELF s_Axis_SELF s_Axis_PARENT))])) (B := T100.setTop (mkF m 40 #[.val (.int p1), .val (.int (4 : Int32)), .val (.ref s_Axis_DESCENDANT_OR_SELF), .val (.int (0 : Int32))] [(.int (1 : Int32))])) (fun t k => ?_) ?_
    · show Steps p.tables e below (T100.setTop (mkF m 32 #[.val (.int p1), .val (.int (4 : Int32)), .val (.ref s_Axis_DESCENDANT_OR_SELF), .val (.int (0 : Int32))] [(.int (0 : Int32)), (.int (frm2 s_Axis_DESCENDANT_OR_SELF s_Axis_SELF s_Axis_PARENT))])) _
      refine XS.icmpNo X100.here hx rfl (hb hby at_32) rfl (teq hc32_101).2 ?_
      show Steps p.tables e below (T100.setTop (mkF m 35 #[.val (.int p1), .val (.int (4 : Int32)), .val (.ref s_Axis_DESCENDANT_OR_SELF), .val (.int (0 : Int32))] [])) _
      refine XS.iconst X100.here hx rfl (hb hby at_35) ?_
      show Steps p.tables e below (T100.setTop (mkF m 36 #[.val (.int p1), .val (.int (4 : Int32)), .val (.ref s_Axis_DESCENDANT_OR_SELF), .val (.int (0 : Int32))] [(.int (1 : Int32))])) _
      refine XS.goto X100.here hx rfl (pc0 := 36) (pc' := 40) rfl (hb hby at_36) (by decide) (by decide) ?_
      exact k
    obtain ⟨fs, hr, hrun, hended, hW, hsame⟩ := X100.leave (v := some (.int (1 : Int32))) (fun h => by rw [Bd.returns] at h; cases h)
    refine ⟨_, _, ?_, hrun, hended, _, _, rfl, ?_, ⟨_, rfl⟩, hW, hsame.mono (by decide) (by decide)⟩
    · show Steps p.tables e below (T100.setTop (mkF m 40 #[.val (.int p1), .val (.int (4 : Int32)), .val (.ref s_Axis_DESCENDANT_OR_SELF), .val (.int (0 : Int32))] [(.int (1 : Int32))])) _
      exact retN X100 hx (t := .boolean) Bd.returns (by simp) (hb hby at_40) hr
    · show Qrm0 Z p1 s_Axis_SELF s_Axis_CHILD s_Axis_PARENT s_Axis_DESCENDANT s_Axis_DESCENDANT_OR_SELF s_Axis_ANCESTOR s_Axis_ANCESTOR_OR_SELF s_Axis_FOLLOWING_SIBLING s_Axis_PRECEDING_SIBLING s_Axis_FOLLOWING s_Axis_PRECEDING h0 n0 _ T100.heap _
      rw [e100]
      exact ⟨rfl, N100⟩
  · rw [hk81]
    refine own_go (A := s₁.setTop (mkF m 7 #[.val (.int p1), .unset, .unset, .unset] [(.int (5 : Int32))])) (B := s₁.setTop (mkF m 9 #[.val (.int p1), .val (.int (5 : Int32)), .unset, .unset] [(.int (5 : Int32))])) (fun t k => ?_) ?_
    · show Steps p.tables e below (s₁.setTop (mkF m 7 #[.val (.int p1), .unset, .unset, .unset] [(.int (5 : Int32))])) _
      refine XS.istoreN X0.here hx rfl (hb hby at_7) rfl (l' := #[.val (.int p1), .val (.int (5 : Int32)), .unset, .unset]) rfl ?_
      show Steps p.tables e below (s₁.setTop (mkF m 8 #[.val (.int p1), .val (.int (5 : Int32)), .unset, .unset] [])) _
      refine XS.iloadN X0.here hx rfl (hb hby at_8) rfl ?_
      exact k
    obtain ⟨_, _, ⟨T102, L102, k102, n102⟩, -, X102, ⟨Lc102, hQ102, l102, y102, z102⟩, st102⟩ := Jvm.LawKit.callS X0 hx (y := (⟨"com/example/decider/decider/library/xpath/AxisLeadsToOneNodePinLaw", "pick", "(I)Lcom/example/decider/decider/library/xpath/Axis;"⟩ : MethodName)) hown (mvT hZ (hw _ (List.mem_of_getElem? (i := 1) rfl))) (mvT hZ (hw _ (List.mem_of_getElem? (i := 2) rfl))) (mvT hZ (hw _ (List.mem_of_getElem? (i := 3) rfl))) (mvT hZ (hw _ (List.mem_of_getElem? (i := 4) rfl))) (by decide) (backOf (W := 0) (rm1_5 l Z a0 hw [] s_Axis_ANCESTOR h0 n0 Z0 P10) hZ (hw _ (List.mem_of_getElem? (i := 4) rfl)) (hw _ (List.mem_of_getElem? (i := 3) rfl)) (by decide) (by decide)) (g := (mkF m 9 #[.val (.int p1), .val (.int (5 : Int32)), .unset, .unset] [(.int (5 : Int32))])) rfl (by rw [hml]; rfl) (argsL := [(.int (5 : Int32))]) (rest := []) (lenOf pd_0 rfl) rfl (by show 2 * 0 + _ ≤ _; exact Nat.le_of_eq rfl) (hb hby at_9) (fun _ _ => ⟨rfl, e0, (by decide : 0 + 0 ≤ _), (by decide : 0 + 0 ≤ _)⟩)
    dsimp only [Pt.U, Pt.locs, Pt.cells, Pt.slots] at X102 l102 y102 z102 st102 hQ102
    subst l102 y102 z102
    obtain ⟨rfl, Nq102, e102⟩ := hQ102
    have N102 := Fr.app N0 Nq102
    refine own_go (A := _) (B := T102.setTop (mkF m 12 #[.val (.int p1), .val (.int (5 : Int32)), .unset, .unset] [(.ref s_Axis_ANCESTOR)])) st102 ?_
    refine own_go (A := T102.setTop (mkF m 12 #[.val (.int p1), .val (.int (5 : Int32)), .unset, .unset] [(.ref s_Axis_ANCESTOR)])) (B := T102.setTop (mkF m 28 #[.val (.int p1), .val (.int (5 : Int32)), .val (.ref s_Axis_ANCESTOR), .val (.int (0 : Int32))] [(.ref s_Axis_ANCESTOR)])) (fun t k => ?_) ?_
    · show Steps p.tables e below (T102.setTop (mkF m 12 #[.val (.int p1), .val (.int (5 : Int32)), .unset, .unset] [(.ref s_Axis_ANCESTOR)])) _
      refine XS.astoreN X102.here hx rfl (hb hby at_12) rfl rfl (l' := #[.val (.int p1), .val (.int (5 : Int32)), .val (.ref s_Axis_ANCESTOR), .unset]) rfl ?_
      show Steps p.tables e below (T102.setTop (mkF m 13 #[.val (.int p1), .val (.int (5 : Int32)), .val (.ref s_Axis_ANCESTOR), .unset] [])) _
      refine XS.iconst X102.here hx rfl (hb hby at_13) ?_
      show Steps p.tables e below (T102.setTop (mkF m 14 #[.val (.int p1), .val (.int (5 : Int32)), .val (.ref s_Axis_ANCESTOR), .unset] [(.int (5 : Int32))])) _
      refine XS.iloadN X102.here hx rfl (hb hby at_14) rfl ?_
      show Steps p.tables e below (T102.setTop (mkF m 15 #[.val (.int p1), .val (.int (5 : Int32)), .val (.ref s_Axis_ANCESTOR), .unset] [(.int (5 : Int32)), (.int (5 : Int32))])) _
      refine XS.ishr X102.here hx rfl (hb hby at_15) rfl ?_
      show Steps p.tables e below (T102.setTop (mkF m 16 #[.val (.int p1), .val (.int (5 : Int32)), .val (.ref s_Axis_ANCESTOR), .unset] [(.int (0 : Int32))])) _
      refine XS.iconst X102.here hx rfl (hb hby at_16) ?_
      show Steps p.tables e below (T102.setTop (mkF m 17 #[.val (.int p1), .val (.int (5 : Int32)), .val (.ref s_Axis_ANCESTOR), .unset] [(.int (1 : Int32)), (.int (0 : Int32))])) _
      refine XS.iand X102.here hx rfl (hb hby at_17) rfl ?_
      show Steps p.tables e below (T102.setTop (mkF m 18 #[.val (.int p1), .val (.int (5 : Int32)), .val (.ref s_Axis_ANCESTOR), .unset] [(.int (0 : Int32))])) _
      refine XS.ifYes X102.here hx rfl (pc0 := 18) (pc' := 25) rfl (hb hby at_18) rfl ((if0 _ _).trans (teq (rfl : (0 : Int32) = (0 : Int32))).1) (by decide) (by decide) ?_
      show Steps p.tables e below (T102.setTop (mkF m 25 #[.val (.int p1), .val (.int (5 : Int32)), .val (.ref s_Axis_ANCESTOR), .unset] [])) _
      refine XS.iconst X102.here hx rfl (hb hby at_25) ?_
      show Steps p.tables e below (T102.setTop (mkF m 26 #[.val (.int p1), .val (.int (5 : Int32)), .val (.ref s_Axis_ANCESTOR), .unset] [(.int (0 : Int32))])) _
      refine XS.istoreN X102.here hx rfl (hb hby at_26) rfl (l' := #[.val (.int p1), .val (.int (5 : Int32)), .val (.ref s_Axis_ANCESTOR), .val (.int (0 : Int32))]) rfl ?_
      show Steps p.tables e below (T102.setTop (mkF m 27 #[.val (.int p1), .val (.int (5 : Int32)), .val (.ref s_Axis_ANCESTOR), .val (.int (0 : Int32))] [])) _
      refine XS.aloadN X102.here hx rfl (hb hby at_27) rfl rfl ?_
      exact k
    obtain ⟨cq104, kq104, q104a, q104b, q104c⟩ := isOf hZ e102 P11
    obtain ⟨_, _, ⟨T104, L104, k104, n104⟩, -, X104, ⟨Lc104, hQ104, l104, y104, z104⟩, st104⟩ := X102.virtualBack hx (y := (⟨"com/example/decider/decider/library/xpath/Axis", "leadsToOneNode", "()Z"⟩ : MethodName)) (z := (⟨"com/example/decider/decider/library/xpath/Axis", "leadsToOneNode", "()Z"⟩ : MethodName)) hown (mvT hZ (hw _ (List.mem_of_getElem? (i := 8) rfl))) (mvT hZ (hw _ (List.mem_of_getElem? (i := 9) rfl))) (notFace_of_selects (args := #[]) (mvT hZ (hw _ (List.mem_of_getElem? (i := 11) rfl)))) (mvT hZ (hw _ (List.mem_of_getElem? (i := 11) rfl))) (mvT hZ (hw _ (List.mem_of_getElem? (i := 10) rfl))) (by decide) (backOf (W := 0) (rm2 l Z a0 hw [] s_Axis_ANCESTOR s_Axis_SELF s_Axis_PARENT h0 n0 Z0 P0 P4) hZ (hw _ (List.mem_of_getElem? (i := 12) rfl)) (hw _ (List.mem_of_getElem? (i := 6) rfl)) (by decide) (by decide)) q104a q104c (g := (mkF m 28 #[.val (.int p1), .val (.int (5 : Int32)), .val (.ref s_Axis_ANCESTOR), .val (.int (0 : Int32))] [(.ref s_Axis_ANCESTOR)])) rfl (by rw [hml]; rfl) (Steps.refl _) (argsL := []) (rest := []) (lenOf pd_1 rfl) rfl (by show 2 * 0 + _ ≤ _; exact Nat.le_of_eq rfl) (hb hby at_28) (fun _ _ => ⟨rfl, e102, (by decide : 0 + 0 ≤ _), (by decide : 0 + 0 ≤ _)⟩)
    dsimp only [Pt.U, Pt.locs, Pt.cells, Pt.slots] at X104 l104 y104 z104 st104 hQ104
    subst l104 y104 z104
    obtain ⟨rfl, Nq104, e104⟩ := hQ104
    have N104 := Fr.app N102 Nq104
    refine own_go (A := _) (B := T104.setTop (mkF m 31 #[.val (.int p1), .val (.int (5 : Int32)), .val (.ref s_Axis_ANCESTOR), .val (.int (0 : Int32))] [(.int (frm2 s_Axis_ANCESTOR s_Axis_SELF s_Axis_PARENT))])) (fun t k => st104.trans k) ?_
    refine own_go (A := T104.setTop (mkF m 31 #[.val (.int p1), .val (.int (5 : Int32)), .val (.ref s_Axis_ANCESTOR), .val (.int (0 : Int32))] [(.int (frm2 s_Axis_ANCESTOR s_Axis_SELF s_Axis_PARENT))])) (B := T104.setTop (mkF m 32 #[.val (.int p1), .val (.int (5 : Int32)), .val (.ref s_Axis_ANCESTOR), .val (.int (0 : Int32))] [(.int (0 : Int32)), (.int (frm2 s_Axis_ANCESTOR s_Axis_SELF s_Axis_PARENT))])) (fun t k => ?_) ?_
    · show Steps p.tables e below (T104.setTop (mkF m 31 #[.val (.int p1), .val (.int (5 : Int32)), .val (.ref s_Axis_ANCESTOR), .val (.int (0 : Int32))] [(.int (frm2 s_Axis_ANCESTOR s_Axis_SELF s_Axis_PARENT))])) _
      refine XS.iloadN X104.here hx rfl (hb hby at_31) rfl ?_
      exact k
    have hc32_105 : ((frm2 s_Axis_ANCESTOR s_Axis_SELF s_Axis_PARENT) = (0 : Int32)) := by simp [frm2, ne_s_Axis_ANCESTOR_s_Axis_SELF, ne_s_Axis_ANCESTOR_s_Axis_PARENT]
    refine own_go (A := T104.setTop (mkF m 32 #[.val (.int p1), .val (.int (5 : Int32)), .val (.ref s_Axis_ANCESTOR), .val (.int (0 : Int32))] [(.int (0 : Int32)), (.int (frm2 s_Axis_ANCESTOR s_Axis_SELF s_Axis_PARENT))])) (B := T104.setTop (mkF m 40 #[.val (.int p1), .val (.int (5 : Int32)), .val (.ref s_Axis_ANCESTOR), .val (.int (0 : Int32))] [(.int (1 : Int32))])) (fun t k => ?_) ?_
    · show Steps p.tables e below (T104.setTop (mkF m 32 #[.val (.int p1), .val (.int (5 : Int32)), .val (.ref s_Axis_ANCESTOR), .val (.int (0 : Int32))] [(.int (0 : Int32)), (.int (frm2 s_Axis_ANCESTOR s_Axis_SELF s_Axis_PARENT))])) _
      refine XS.icmpNo X104.here hx rfl (hb hby at_32) rfl (teq hc32_105).2 ?_
      show Steps p.tables e below (T104.setTop (mkF m 35 #[.val (.int p1), .val (.int (5 : Int32)), .val (.ref s_Axis_ANCESTOR), .val (.int (0 : Int32))] [])) _
      refine XS.iconst X104.here hx rfl (hb hby at_35) ?_
      show Steps p.tables e below (T104.setTop (mkF m 36 #[.val (.int p1), .val (.int (5 : Int32)), .val (.ref s_Axis_ANCESTOR), .val (.int (0 : Int32))] [(.int (1 : Int32))])) _
      refine XS.goto X104.here hx rfl (pc0 := 36) (pc' := 40) rfl (hb hby at_36) (by decide) (by decide) ?_
      exact k
    obtain ⟨fs, hr, hrun, hended, hW, hsame⟩ := X104.leave (v := some (.int (1 : Int32))) (fun h => by rw [Bd.returns] at h; cases h)
    refine ⟨_, _, ?_, hrun, hended, _, _, rfl, ?_, ⟨_, rfl⟩, hW, hsame.mono (by decide) (by decide)⟩
    · show Steps p.tables e below (T104.setTop (mkF m 40 #[.val (.int p1), .val (.int (5 : Int32)), .val (.ref s_Axis_ANCESTOR), .val (.int (0 : Int32))] [(.int (1 : Int32))])) _
      exact retN X104 hx (t := .boolean) Bd.returns (by simp) (hb hby at_40) hr
    · show Qrm0 Z p1 s_Axis_SELF s_Axis_CHILD s_Axis_PARENT s_Axis_DESCENDANT s_Axis_DESCENDANT_OR_SELF s_Axis_ANCESTOR s_Axis_ANCESTOR_OR_SELF s_Axis_FOLLOWING_SIBLING s_Axis_PRECEDING_SIBLING s_Axis_FOLLOWING s_Axis_PRECEDING h0 n0 _ T104.heap _
      rw [e104]
      exact ⟨rfl, N104⟩
  · rw [hk81]
    refine own_go (A := s₁.setTop (mkF m 7 #[.val (.int p1), .unset, .unset, .unset] [(.int (6 : Int32))])) (B := s₁.setTop (mkF m 9 #[.val (.int p1), .val (.int (6 : Int32)), .unset, .unset] [(.int (6 : Int32))])) (fun t k => ?_) ?_
    · show Steps p.tables e below (s₁.setTop (mkF m 7 #[.val (.int p1), .unset, .unset, .unset] [(.int (6 : Int32))])) _
      refine XS.istoreN X0.here hx rfl (hb hby at_7) rfl (l' := #[.val (.int p1), .val (.int (6 : Int32)), .unset, .unset]) rfl ?_
      show Steps p.tables e below (s₁.setTop (mkF m 8 #[.val (.int p1), .val (.int (6 : Int32)), .unset, .unset] [])) _
      refine XS.iloadN X0.here hx rfl (hb hby at_8) rfl ?_
      exact k
    obtain ⟨_, _, ⟨T106, L106, k106, n106⟩, -, X106, ⟨Lc106, hQ106, l106, y106, z106⟩, st106⟩ := Jvm.LawKit.callS X0 hx (y := (⟨"com/example/decider/decider/library/xpath/AxisLeadsToOneNodePinLaw", "pick", "(I)Lcom/example/decider/decider/library/xpath/Axis;"⟩ : MethodName)) hown (mvT hZ (hw _ (List.mem_of_getElem? (i := 1) rfl))) (mvT hZ (hw _ (List.mem_of_getElem? (i := 2) rfl))) (mvT hZ (hw _ (List.mem_of_getElem? (i := 3) rfl))) (mvT hZ (hw _ (List.mem_of_getElem? (i := 4) rfl))) (by decide) (backOf (W := 0) (rm1_6 l Z a0 hw [] s_Axis_ANCESTOR_OR_SELF h0 n0 Z0 P12) hZ (hw _ (List.mem_of_getElem? (i := 4) rfl)) (hw _ (List.mem_of_getElem? (i := 3) rfl)) (by decide) (by decide)) (g := (mkF m 9 #[.val (.int p1), .val (.int (6 : Int32)), .unset, .unset] [(.int (6 : Int32))])) rfl (by rw [hml]; rfl) (argsL := [(.int (6 : Int32))]) (rest := []) (lenOf pd_0 rfl) rfl (by show 2 * 0 + _ ≤ _; exact Nat.le_of_eq rfl) (hb hby at_9) (fun _ _ => ⟨rfl, e0, (by decide : 0 + 0 ≤ _), (by decide : 0 + 0 ≤ _)⟩)
    dsimp only [Pt.U, Pt.locs, Pt.cells, Pt.slots] at X106 l106 y106 z106 st106 hQ106
    subst l106 y106 z106
    obtain ⟨rfl, Nq106, e106⟩ := hQ106
    have N106 := Fr.app N0 Nq106
    refine own_go (A := _) (B := T106.setTop (mkF m 12 #[.val (.int p1), .val (.int (6 : Int32)), .unset, .unset] [(.ref s_Axis_ANCESTOR_OR_SELF)])) st106 ?_
    refine own_go (A := T106.setTop (mkF m 12 #[.val (.int p1), .val (.int (6 : Int32)), .unset, .unset] [(.ref s_Axis_ANCESTOR_OR_SELF)])) (B := T106.setTop (mkF m 28 #[.val (.int p1), .val (.int (6 : Int32)), .val (.ref s_Axis_ANCESTOR_OR_SELF), .val (.int (0 : Int32))] [(.ref s_Axis_ANCESTOR_OR_SELF)])) (fun t k => ?_) ?_
    · show Steps p.tables e below (T106.setTop (mkF m 12 #[.val (.int p1), .val (.int (6 : Int32)), .unset, .unset] [(.ref s_Axis_ANCESTOR_OR_SELF)])) _
      refine XS.astoreN X106.here hx rfl (hb hby at_12) rfl rfl (l' := #[.val (.int p1), .val (.int (6 : Int32)), .val (.ref s_Axis_ANCESTOR_OR_SELF), .unset]) rfl ?_
      show Steps p.tables e below (T106.setTop (mkF m 13 #[.val (.int p1), .val (.int (6 : Int32)), .val (.ref s_Axis_ANCESTOR_OR_SELF), .unset] [])) _
      refine XS.iconst X106.here hx rfl (hb hby at_13) ?_
      show Steps p.tables e below (T106.setTop (mkF m 14 #[.val (.int p1), .val (.int (6 : Int32)), .val (.ref s_Axis_ANCESTOR_OR_SELF), .unset] [(.int (5 : Int32))])) _
      refine XS.iloadN X106.here hx rfl (hb hby at_14) rfl ?_
      show Steps p.tables e below (T106.setTop (mkF m 15 #[.val (.int p1), .val (.int (6 : Int32)), .val (.ref s_Axis_ANCESTOR_OR_SELF), .unset] [(.int (6 : Int32)), (.int (5 : Int32))])) _
      refine XS.ishr X106.here hx rfl (hb hby at_15) rfl ?_
      show Steps p.tables e below (T106.setTop (mkF m 16 #[.val (.int p1), .val (.int (6 : Int32)), .val (.ref s_Axis_ANCESTOR_OR_SELF), .unset] [(.int (0 : Int32))])) _
      refine XS.iconst X106.here hx rfl (hb hby at_16) ?_
      show Steps p.tables e below (T106.setTop (mkF m 17 #[.val (.int p1), .val (.int (6 : Int32)), .val (.ref s_Axis_ANCESTOR_OR_SELF), .unset] [(.int (1 : Int32)), (.int (0 : Int32))])) _
      refine XS.iand X106.here hx rfl (hb hby at_17) rfl ?_
      show Steps p.tables e below (T106.setTop (mkF m 18 #[.val (.int p1), .val (.int (6 : Int32)), .val (.ref s_Axis_ANCESTOR_OR_SELF), .unset] [(.int (0 : Int32))])) _
      refine XS.ifYes X106.here hx rfl (pc0 := 18) (pc' := 25) rfl (hb hby at_18) rfl ((if0 _ _).trans (teq (rfl : (0 : Int32) = (0 : Int32))).1) (by decide) (by decide) ?_
      show Steps p.tables e below (T106.setTop (mkF m 25 #[.val (.int p1), .val (.int (6 : Int32)), .val (.ref s_Axis_ANCESTOR_OR_SELF), .unset] [])) _
      refine XS.iconst X106.here hx rfl (hb hby at_25) ?_
      show Steps p.tables e below (T106.setTop (mkF m 26 #[.val (.int p1), .val (.int (6 : Int32)), .val (.ref s_Axis_ANCESTOR_OR_SELF), .unset] [(.int (0 : Int32))])) _
      refine XS.istoreN X106.here hx rfl (hb hby at_26) rfl (l' := #[.val (.int p1), .val (.int (6 : Int32)), .val (.ref s_Axis_ANCESTOR_OR_SELF), .val (.int (0 : Int32))]) rfl ?_
      show Steps p.tables e below (T106.setTop (mkF m 27 #[.val (.int p1), .val (.int (6 : Int32)), .val (.ref s_Axis_ANCESTOR_OR_SELF), .val (.int (0 : Int32))] [])) _
      refine XS.aloadN X106.here hx rfl (hb hby at_27) rfl rfl ?_
      exact k
    obtain ⟨cq108, kq108, q108a, q108b, q108c⟩ := isOf hZ e106 P13
    obtain ⟨_, _, ⟨T108, L108, k108, n108⟩, -, X108, ⟨Lc108, hQ108, l108, y108, z108⟩, st108⟩ := X106.virtualBack hx (y := (⟨"com/example/decider/decider/library/xpath/Axis", "leadsToOneNode", "()Z"⟩ : MethodName)) (z := (⟨"com/example/decider/decider/library/xpath/Axis", "leadsToOneNode", "()Z"⟩ : MethodName)) hown (mvT hZ (hw _ (List.mem_of_getElem? (i := 8) rfl))) (mvT hZ (hw _ (List.mem_of_getElem? (i := 9) rfl))) (notFace_of_selects (args := #[]) (mvT hZ (hw _ (List.mem_of_getElem? (i := 11) rfl)))) (mvT hZ (hw _ (List.mem_of_getElem? (i := 11) rfl))) (mvT hZ (hw _ (List.mem_of_getElem? (i := 10) rfl))) (by decide) (backOf (W := 0) (rm2 l Z a0 hw [] s_Axis_ANCESTOR_OR_SELF s_Axis_SELF s_Axis_PARENT h0 n0 Z0 P0 P4) hZ (hw _ (List.mem_of_getElem? (i := 12) rfl)) (hw _ (List.mem_of_getElem? (i := 6) rfl)) (by decide) (by decide)) q108a q108c (g := (mkF m 28 #[.val (.int p1), .val (.int (6 : Int32)), .val (.ref s_Axis_ANCESTOR_OR_SELF), .val (.int (0 : Int32))] [(.ref s_Axis_ANCESTOR_OR_SELF)])) rfl (by rw [hml]; rfl) (Steps.refl _) (argsL := []) (rest := []) (lenOf pd_1 rfl) rfl (by show 2 * 0 + _ ≤ _; exact Nat.le_of_eq rfl) (hb hby at_28) (fun _ _ => ⟨rfl, e106, (by decide : 0 + 0 ≤ _), (by decide : 0 + 0 ≤ _)⟩)
    dsimp only [Pt.U, Pt.locs, Pt.cells, Pt.slots] at X108 l108 y108 z108 st108 hQ108
    subst l108 y108 z108
    obtain ⟨rfl, Nq108, e108⟩ := hQ108
    have N108 := Fr.app N106 Nq108
    refine own_go (A := _) (B := T108.setTop (mkF m 31 #[.val (.int p1), .val (.int (6 : Int32)), .val (.ref s_Axis_ANCESTOR_OR_SELF), .val (.int (0 : Int32))] [(.int (frm2 s_Axis_ANCESTOR_OR_SELF s_Axis_SELF s_Axis_PARENT))])) (fun t k => st108.trans k) ?_
    refine own_go (A := T108.setTop (mkF m 31 #[.val (.int p1), .val (.int (6 : Int32)), .val (.ref s_Axis_ANCESTOR_OR_SELF), .val (.int (0 : Int32))] [(.int (frm2 s_Axis_ANCESTOR_OR_SELF s_Axis_SELF s_Axis_PARENT))])) (B := T108.setTop (mkF m 32 #[.val (.int p1), .val (.int (6 : Int32)), .val (.ref s_Axis_ANCESTOR_OR_SELF), .val (.int (0 : Int32))] [(.int (0 : Int32)), (.int (frm2 s_Axis_ANCESTOR_OR_SELF s_Axis_SELF s_Axis_PARENT))])) (fun t k => ?_) ?_
    · show Steps p.tables e below (T108.setTop (mkF m 31 #[.val (.int p1), .val (.int (6 : Int32)), .val (.ref s_Axis_ANCESTOR_OR_SELF), .val (.int (0 : Int32))] [(.int (frm2 s_Axis_ANCESTOR_OR_SELF s_Axis_SELF s_Axis_PARENT))])) _
      refine XS.iloadN X108.here hx rfl (hb hby at_31) rfl ?_
      exact k
    have hc32_109 : ((frm2 s_Axis_ANCESTOR_OR_SELF s_Axis_SELF s_Axis_PARENT) = (0 : Int32)) := by simp [frm2, ne_s_Axis_ANCESTOR_OR_SELF_s_Axis_SELF, ne_s_Axis_ANCESTOR_OR_SELF_s_Axis_PARENT]
    refine own_go (A := T108.setTop (mkF m 32 #[.val (.int p1), .val (.int (6 : Int32)), .val (.ref s_Axis_ANCESTOR_OR_SELF), .val (.int (0 : Int32))] [(.int (0 : Int32)), (.int (frm2 s_Axis_ANCESTOR_OR_SELF s_Axis_SELF s_Axis_PARENT))])) (B := T108.setTop (mkF m 40 #[.val (.int p1), .val (.int (6 : Int32)), .val (.ref s_Axis_ANCESTOR_OR_SELF), .val (.int (0 : Int32))] [(.int (1 : Int32))])) (fun t k => ?_) ?_
    · show Steps p.tables e below (T108.setTop (mkF m 32 #[.val (.int p1), .val (.int (6 : Int32)), .val (.ref s_Axis_ANCESTOR_OR_SELF), .val (.int (0 : Int32))] [(.int (0 : Int32)), (.int (frm2 s_Axis_ANCESTOR_OR_SELF s_Axis_SELF s_Axis_PARENT))])) _
      refine XS.icmpNo X108.here hx rfl (hb hby at_32) rfl (teq hc32_109).2 ?_
      show Steps p.tables e below (T108.setTop (mkF m 35 #[.val (.int p1), .val (.int (6 : Int32)), .val (.ref s_Axis_ANCESTOR_OR_SELF), .val (.int (0 : Int32))] [])) _
      refine XS.iconst X108.here hx rfl (hb hby at_35) ?_
      show Steps p.tables e below (T108.setTop (mkF m 36 #[.val (.int p1), .val (.int (6 : Int32)), .val (.ref s_Axis_ANCESTOR_OR_SELF), .val (.int (0 : Int32))] [(.int (1 : Int32))])) _
      refine XS.goto X108.here hx rfl (pc0 := 36) (pc' := 40) rfl (hb hby at_36) (by decide) (by decide) ?_
      exact k
    obtain ⟨fs, hr, hrun, hended, hW, hsame⟩ := X108.leave (v := some (.int (1 : Int32))) (fun h => by rw [Bd.returns] at h; cases h)
    refine ⟨_, _, ?_, hrun, hended, _, _, rfl, ?_, ⟨_, rfl⟩, hW, hsame.mono (by decide) (by decide)⟩
    · show Steps p.tables e below (T108.setTop (mkF m 40 #[.val (.int p1), .val (.int (6 : Int32)), .val (.ref s_Axis_ANCESTOR_OR_SELF), .val (.int (0 : Int32))] [(.int (1 : Int32))])) _
      exact retN X108 hx (t := .boolean) Bd.returns (by simp) (hb hby at_40) hr
    · show Qrm0 Z p1 s_Axis_SELF s_Axis_CHILD s_Axis_PARENT s_Axis_DESCENDANT s_Axis_DESCENDANT_OR_SELF s_Axis_ANCESTOR s_Axis_ANCESTOR_OR_SELF s_Axis_FOLLOWING_SIBLING s_Axis_PRECEDING_SIBLING s_Axis_FOLLOWING s_Axis_PRECEDING h0 n0 _ T108.heap _
      rw [e108]
      exact ⟨rfl, N108⟩
  · rw [hk81]
    refine own_go (A := s₁.setTop (mkF m 7 #[.val (.int p1), .unset, .unset, .unset] [(.int (7 : Int32))])) (B := s₁.setTop (mkF m 9 #[.val (.int p1), .val (.int (7 : Int32)), .unset, .unset] [(.int (7 : Int32))])) (fun t k => ?_) ?_
    · show Steps p.tables e below (s₁.setTop (mkF m 7 #[.val (.int p1), .unset, .unset, .unset] [(.int (7 : Int32))])) _
      refine XS.istoreN X0.here hx rfl (hb hby at_7) rfl (l' := #[.val (.int p1), .val (.int (7 : Int32)), .unset, .unset]) rfl ?_
      show Steps p.tables e below (s₁.setTop (mkF m 8 #[.val (.int p1), .val (.int (7 : Int32)), .unset, .unset] [])) _
      refine XS.iloadN X0.here hx rfl (hb hby at_8) rfl ?_
      exact k
    obtain ⟨_, _, ⟨T110, L110, k110, n110⟩, -, X110, ⟨Lc110, hQ110, l110, y110, z110⟩, st110⟩ := Jvm.LawKit.callS X0 hx (y := (⟨"com/example/decider/decider/library/xpath/AxisLeadsToOneNodePinLaw", "pick", "(I)Lcom/example/decider/decider/library/xpath/Axis;"⟩ : MethodName)) hown (mvT hZ (hw _ (List.mem_of_getElem? (i := 1) rfl))) (mvT hZ (hw _ (List.mem_of_getElem? (i := 2) rfl))) (mvT hZ (hw _ (List.mem_of_getElem? (i := 3) rfl))) (mvT hZ (hw _ (List.mem_of_getElem? (i := 4) rfl))) (by decide) (backOf (W := 0) (rm1_7 l Z a0 hw [] s_Axis_FOLLOWING_SIBLING h0 n0 Z0 P14) hZ (hw _ (List.mem_of_getElem? (i := 4) rfl)) (hw _ (List.mem_of_getElem? (i := 3) rfl)) (by decide) (by decide)) (g := (mkF m 9 #[.val (.int p1), .val (.int (7 : Int32)), .unset, .unset] [(.int (7 : Int32))])) rfl (by rw [hml]; rfl) (argsL := [(.int (7 : Int32))]) (rest := []) (lenOf pd_0 rfl) rfl (by show 2 * 0 + _ ≤ _; exact Nat.le_of_eq rfl) (hb hby at_9) (fun _ _ => ⟨rfl, e0, (by decide : 0 + 0 ≤ _), (by decide : 0 + 0 ≤ _)⟩)
    dsimp only [Pt.U, Pt.locs, Pt.cells, Pt.slots] at X110 l110 y110 z110 st110 hQ110
    subst l110 y110 z110
    obtain ⟨rfl, Nq110, e110⟩ := hQ110
    have N110 := Fr.app N0 Nq110
    refine own_go (A := _) (B := T110.setTop (mkF m 12 #[.val (.int p1), .val (.int (7 : Int32)), .unset, .unset] [(.ref s_Axis_FOLLOWING_SIBLING)])) st110 ?_
    refine own_go (A := T110.setTop (mkF m 12 #[.val (.int p1), .val (.int (7 : Int32)), .unset, .unset] [(.ref s_Axis_FOLLOWING_SIBLING)])) (B := T110.setTop (mkF m 28 #[.val (.int p1), .val (.int (7 : Int32)), .val (.ref s_Axis_FOLLOWING_SIBLING), .val (.int (0 : Int32))] [(.ref s_Axis_FOLLOWING_SIBLING)])) (fun t k => ?_) ?_
    · show Steps p.tables e below (T110.setTop (mkF m 12 #[.val (.int p1), .val (.int (7 : Int32)), .unset, .unset] [(.ref s_Axis_FOLLOWING_SIBLING)])) _
      refine XS.astoreN X110.here hx rfl (hb hby at_12) rfl rfl (l' := #[.val (.int p1), .val (.int (7 : Int32)), .val (.ref s_Axis_FOLLOWING_SIBLING), .unset]) rfl ?_
      show Steps p.tables e below (T110.setTop (mkF m 13 #[.val (.int p1), .val (.int (7 : Int32)), .val (.ref s_Axis_FOLLOWING_SIBLING), .unset] [])) _
      refine XS.iconst X110.here hx rfl (hb hby at_13) ?_
      show Steps p.tables e below (T110.setTop (mkF m 14 #[.val (.int p1), .val (.int (7 : Int32)), .val (.ref s_Axis_FOLLOWING_SIBLING), .unset] [(.int (5 : Int32))])) _
      refine XS.iloadN X110.here hx rfl (hb hby at_14) rfl ?_
      show Steps p.tables e below (T110.setTop (mkF m 15 #[.val (.int p1), .val (.int (7 : Int32)), .val (.ref s_Axis_FOLLOWING_SIBLING), .unset] [(.int (7 : Int32)), (.int (5 : Int32))])) _
      refine XS.ishr X110.here hx rfl (hb hby at_15) rfl ?_
      show Steps p.tables e below (T110.setTop (mkF m 16 #[.val (.int p1), .val (.int (7 : Int32)), .val (.ref s_Axis_FOLLOWING_SIBLING), .unset] [(.int (0 : Int32))])) _
      refine XS.iconst X110.here hx rfl (hb hby at_16) ?_
      show Steps p.tables e below (T110.setTop (mkF m 17 #[.val (.int p1), .val (.int (7 : Int32)), .val (.ref s_Axis_FOLLOWING_SIBLING), .unset] [(.int (1 : Int32)), (.int (0 : Int32))])) _
      refine XS.iand X110.here hx rfl (hb hby at_17) rfl ?_
      show Steps p.tables e below (T110.setTop (mkF m 18 #[.val (.int p1), .val (.int (7 : Int32)), .val (.ref s_Axis_FOLLOWING_SIBLING), .unset] [(.int (0 : Int32))])) _
      refine XS.ifYes X110.here hx rfl (pc0 := 18) (pc' := 25) rfl (hb hby at_18) rfl ((if0 _ _).trans (teq (rfl : (0 : Int32) = (0 : Int32))).1) (by decide) (by decide) ?_
      show Steps p.tables e below (T110.setTop (mkF m 25 #[.val (.int p1), .val (.int (7 : Int32)), .val (.ref s_Axis_FOLLOWING_SIBLING), .unset] [])) _
      refine XS.iconst X110.here hx rfl (hb hby at_25) ?_
      show Steps p.tables e below (T110.setTop (mkF m 26 #[.val (.int p1), .val (.int (7 : Int32)), .val (.ref s_Axis_FOLLOWING_SIBLING), .unset] [(.int (0 : Int32))])) _
      refine XS.istoreN X110.here hx rfl (hb hby at_26) rfl (l' := #[.val (.int p1), .val (.int (7 : Int32)), .val (.ref s_Axis_FOLLOWING_SIBLING), .val (.int (0 : Int32))]) rfl ?_
      show Steps p.tables e below (T110.setTop (mkF m 27 #[.val (.int p1), .val (.int (7 : Int32)), .val (.ref s_Axis_FOLLOWING_SIBLING), .val (.int (0 : Int32))] [])) _
      refine XS.aloadN X110.here hx rfl (hb hby at_27) rfl rfl ?_
      exact k
    obtain ⟨cq112, kq112, q112a, q112b, q112c⟩ := isOf hZ e110 P15
    obtain ⟨_, _, ⟨T112, L112, k112, n112⟩, -, X112, ⟨Lc112, hQ112, l112, y112, z112⟩, st112⟩ := X110.virtualBack hx (y := (⟨"com/example/decider/decider/library/xpath/Axis", "leadsToOneNode", "()Z"⟩ : MethodName)) (z := (⟨"com/example/decider/decider/library/xpath/Axis", "leadsToOneNode", "()Z"⟩ : MethodName)) hown (mvT hZ (hw _ (List.mem_of_getElem? (i := 8) rfl))) (mvT hZ (hw _ (List.mem_of_getElem? (i := 9) rfl))) (notFace_of_selects (args := #[]) (mvT hZ (hw _ (List.mem_of_getElem? (i := 11) rfl)))) (mvT hZ (hw _ (List.mem_of_getElem? (i := 11) rfl))) (mvT hZ (hw _ (List.mem_of_getElem? (i := 10) rfl))) (by decide) (backOf (W := 0) (rm2 l Z a0 hw [] s_Axis_FOLLOWING_SIBLING s_Axis_SELF s_Axis_PARENT h0 n0 Z0 P0 P4) hZ (hw _ (List.mem_of_getElem? (i := 12) rfl)) (hw _ (List.mem_of_getElem? (i := 6) rfl)) (by decide) (by decide)) q112a q112c (g := (mkF m 28 #[.val (.int p1), .val (.int (7 : Int32)), .val (.ref s_Axis_FOLLOWING_SIBLING), .val (.int (0 : Int32))] [(.ref s_Axis_FOLLOWING_SIBLING)])) rfl (by rw [hml]; rfl) (Steps.refl _) (argsL := []) (rest := []) (lenOf pd_1 rfl) rfl (by show 2 * 0 + _ ≤ _; exact Nat.le_of_eq rfl) (hb hby at_28) (fun _ _ => ⟨rfl, e110, (by decide : 0 + 0 ≤ _), (by decide : 0 + 0 ≤ _)⟩)
    dsimp only [Pt.U, Pt.locs, Pt.cells, Pt.slots] at X112 l112 y112 z112 st112 hQ112
    subst l112 y112 z112
    obtain ⟨rfl, Nq112, e112⟩ := hQ112
    have N112 := Fr.app N110 Nq112
    refine own_go (A := _) (B := T112.setTop (mkF m 31 #[.val (.int p1), .val (.int (7 : Int32)), .val (.ref s_Axis_FOLLOWING_SIBLING), .val (.int (0 : Int32))] [(.int (frm2 s_Axis_FOLLOWING_SIBLING s_Axis_SELF s_Axis_PARENT))])) (fun t k => st112.trans k) ?_
    refine own_go (A := T112.setTop (mkF m 31 #[.val (.int p1), .val (.int (7 : Int32)), .val (.ref s_Axis_FOLLOWING_SIBLING), .val (.int (0 : Int32))] [(.int (frm2 s_Axis_FOLLOWING_SIBLING s_Axis_SELF s_Axis_PARENT))])) (B := T112.setTop (mkF m 32 #[.val (.int p1), .val (.int (7 : Int32)), .val (.ref s_Axis_FOLLOWING_SIBLING), .val (.int (0 : Int32))] [(.int (0 : Int32)), (.int (frm2 s_Axis_FOLLOWING_SIBLING s_Axis_SELF s_Axis_PARENT))])) (fun t k => ?_) ?_
    · show Steps p.tables e below (T112.setTop (mkF m 31 #[.val (.int p1), .val (.int (7 : Int32)), .val (.ref s_Axis_FOLLOWING_SIBLING), .val (.int (0 : Int32))] [(.int (frm2 s_Axis_FOLLOWING_SIBLING s_Axis_SELF s_Axis_PARENT))])) _
      refine XS.iloadN X112.here hx rfl (hb hby at_31) rfl ?_
      exact k
    have hc32_113 : ((frm2 s_Axis_FOLLOWING_SIBLING s_Axis_SELF s_Axis_PARENT) = (0 : Int32)) := by simp [frm2, ne_s_Axis_FOLLOWING_SIBLING_s_Axis_SELF, ne_s_Axis_FOLLOWING_SIBLING_s_Axis_PARENT]
    refine own_go (A := T112.setTop (mkF m 32 #[.val (.int p1), .val (.int (7 : Int32)), .val (.ref s_Axis_FOLLOWING_SIBLING), .val (.int (0 : Int32))] [(.int (0 : Int32)), (.int (frm2 s_Axis_FOLLOWING_SIBLING s_Axis_SELF s_Axis_PARENT))])) (B := T112.setTop (mkF m 40 #[.val (.int p1), .val (.int (7 : Int32)), .val (.ref s_Axis_FOLLOWING_SIBLING), .val (.int (0 : Int32))] [(.int (1 : Int32))])) (fun t k => ?_) ?_
    · show Steps p.tables e below (T112.setTop (mkF m 32 #[.val (.int p1), .val (.int (7 : Int32)), .val (.ref s_Axis_FOLLOWING_SIBLING), .val (.int (0 : Int32))] [(.int (0 : Int32)), (.int (frm2 s_Axis_FOLLOWING_SIBLING s_Axis_SELF s_Axis_PARENT))])) _
      refine XS.icmpNo X112.here hx rfl (hb hby at_32) rfl (teq hc32_113).2 ?_
      show Steps p.tables e below (T112.setTop (mkF m 35 #[.val (.int p1), .val (.int (7 : Int32)), .val (.ref s_Axis_FOLLOWING_SIBLING), .val (.int (0 : Int32))] [])) _
      refine XS.iconst X112.here hx rfl (hb hby at_35) ?_
      show Steps p.tables e below (T112.setTop (mkF m 36 #[.val (.int p1), .val (.int (7 : Int32)), .val (.ref s_Axis_FOLLOWING_SIBLING), .val (.int (0 : Int32))] [(.int (1 : Int32))])) _
      refine XS.goto X112.here hx rfl (pc0 := 36) (pc' := 40) rfl (hb hby at_36) (by decide) (by decide) ?_
      exact k
    obtain ⟨fs, hr, hrun, hended, hW, hsame⟩ := X112.leave (v := some (.int (1 : Int32))) (fun h => by rw [Bd.returns] at h; cases h)
    refine ⟨_, _, ?_, hrun, hended, _, _, rfl, ?_, ⟨_, rfl⟩, hW, hsame.mono (by decide) (by decide)⟩
    · show Steps p.tables e below (T112.setTop (mkF m 40 #[.val (.int p1), .val (.int (7 : Int32)), .val (.ref s_Axis_FOLLOWING_SIBLING), .val (.int (0 : Int32))] [(.int (1 : Int32))])) _
      exact retN X112 hx (t := .boolean) Bd.returns (by simp) (hb hby at_40) hr
    · show Qrm0 Z p1 s_Axis_SELF s_Axis_CHILD s_Axis_PARENT s_Axis_DESCENDANT s_Axis_DESCENDANT_OR_SELF s_Axis_ANCESTOR s_Axis_ANCESTOR_OR_SELF s_Axis_FOLLOWING_SIBLING s_Axis_PRECEDING_SIBLING s_Axis_FOLLOWING s_Axis_PRECEDING h0 n0 _ T112.heap _
      rw [e112]
      exact ⟨rfl, N112⟩
  · rw [hk81]
    refine own_go (A := s₁.setTop (mkF m 7 #[.val (.int p1), .unset, .unset, .unset] [(.int (8 : Int32))])) (B := s₁.setTop (mkF m 9 #[.val (.int p1), .val (.int (8 : Int32)), .unset, .unset] [(.int (8 : Int32))])) (fun t k => ?_) ?_
    · show Steps p.tables e below (s₁.setTop (mkF m 7 #[.val (.int p1), .unset, .unset, .unset] [(.int (8 : Int32))])) _
      refine XS.istoreN X0.here hx rfl (hb hby at_7) rfl (l' := #[.val (.int p1), .val (.int (8 : Int32)), .unset, .unset]) rfl ?_
      show Steps p.tables e below (s₁.setTop (mkF m 8 #[.val (.int p1), .val (.int (8 : Int32)), .unset, .unset] [])) _
      refine XS.iloadN X0.here hx rfl (hb hby at_8) rfl ?_
      exact k
    obtain ⟨_, _, ⟨T114, L114, k114, n114⟩, -, X114, ⟨Lc114, hQ114, l114, y114, z114⟩, st114⟩ := Jvm.LawKit.callS X0 hx (y := (⟨"com/example/decider/decider/library/xpath/AxisLeadsToOneNodePinLaw", "pick", "(I)Lcom/example/decider/decider/library/xpath/Axis;"⟩ : MethodName)) hown (mvT hZ (hw _ (List.mem_of_getElem? (i := 1) rfl))) (mvT hZ (hw _ (List.mem_of_getElem? (i := 2) rfl))) (mvT hZ (hw _ (List.mem_of_getElem? (i := 3) rfl))) (mvT hZ (hw _ (List.mem_of_getElem? (i := 4) rfl))) (by decide) (backOf (W := 0) (rm1_8 l Z a0 hw [] s_Axis_PRECEDING_SIBLING h0 n0 Z0 P16) hZ (hw _ (List.mem_of_getElem? (i := 4) rfl)) (hw _ (List.mem_of_getElem? (i := 3) rfl)) (by decide) (by decide)) (g := (mkF m 9 #[.val (.int p1), .val (.int (8 : Int32)), .unset, .unset] [(.int (8 : Int32))])) rfl (by rw [hml]; rfl) (argsL := [(.int (8 : Int32))]) (rest := []) (lenOf pd_0 rfl) rfl (by show 2 * 0 + _ ≤ _; exact Nat.le_of_eq rfl) (hb hby at_9) (fun _ _ => ⟨rfl, e0, (by decide : 0 + 0 ≤ _), (by decide : 0 + 0 ≤ _)⟩)
    dsimp only [Pt.U, Pt.locs, Pt.cells, Pt.slots] at X114 l114 y114 z114 st114 hQ114
    subst l114 y114 z114
    obtain ⟨rfl, Nq114, e114⟩ := hQ114
    have N114 := Fr.app N0 Nq114
    refine own_go (A := _) (B := T114.setTop (mkF m 12 #[.val (.int p1), .val (.int (8 : Int32)), .unset, .unset] [(.ref s_Axis_PRECEDING_SIBLING)])) st114 ?_
    refine own_go (A := T114.setTop (mkF m 12 #[.val (.int p1), .val (.int (8 : Int32)), .unset, .unset] [(.ref s_Axis_PRECEDING_SIBLING)])) (B := T114.setTop (mkF m 28 #[.val (.int p1), .val (.int (8 : Int32)), .val (.ref s_Axis_PRECEDING_SIBLING), .val (.int (0 : Int32))] [(.ref s_Axis_PRECEDING_SIBLING)])) (fun t k => ?_) ?_
    · show Steps p.tables e below (T114.setTop (mkF m 12 #[.val (.int p1), .val (.int (8 : Int32)), .unset, .unset] [(.ref s_Axis_PRECEDING_SIBLING)])) _
      refine XS.astoreN X114.here hx rfl (hb hby at_12) rfl rfl (l' := #[.val (.int p1), .val (.int (8 : Int32)), .val (.ref s_Axis_PRECEDING_SIBLING), .unset]) rfl ?_
      show Steps p.tables e below (T114.setTop (mkF m 13 #[.val (.int p1), .val (.int (8 : Int32)), .val (.ref s_Axis_PRECEDING_SIBLING), .unset] [])) _
      refine XS.iconst X114.here hx rfl (hb hby at_13) ?_
      show Steps p.tables e below (T114.setTop (mkF m 14 #[.val (.int p1), .val (.int (8 : Int32)), .val (.ref s_Axis_PRECEDING_SIBLING), .unset] [(.int (5 : Int32))])) _
      refine XS.iloadN X114.here hx rfl (hb hby at_14) rfl ?_
      show Steps p.tables e below (T114.setTop (mkF m 15 #[.val (.int p1), .val (.int (8 : Int32)), .val (.ref s_Axis_PRECEDING_SIBLING), .unset] [(.int (8 : Int32)), (.int (5 : Int32))])) _
      refine XS.ishr X114.here hx rfl (hb hby at_15) rfl ?_
      show Steps p.tables e below (T114.setTop (mkF m 16 #[.val (.int p1), .val (.int (8 : Int32)), .val (.ref s_Axis_PRECEDING_SIBLING), .unset] [(.int (0 : Int32))])) _
      refine XS.iconst X114.here hx rfl (hb hby at_16) ?_
      show Steps p.tables e below (T114.setTop (mkF m 17 #[.val (.int p1), .val (.int (8 : Int32)), .val (.ref s_Axis_PRECEDING_SIBLING), .unset] [(.int (1 : Int32)), (.int (0 : Int32))])) _
      refine XS.iand X114.here hx rfl (hb hby at_17) rfl ?_
      show Steps p.tables e below (T114.setTop (mkF m 18 #[.val (.int p1), .val (.int (8 : Int32)), .val (.ref s_Axis_PRECEDING_SIBLING), .unset] [(.int (0 : Int32))])) _
      refine XS.ifYes X114.here hx rfl (pc0 := 18) (pc' := 25) rfl (hb hby at_18) rfl ((if0 _ _).trans (teq (rfl : (0 : Int32) = (0 : Int32))).1) (by decide) (by decide) ?_
      show Steps p.tables e below (T114.setTop (mkF m 25 #[.val (.int p1), .val (.int (8 : Int32)), .val (.ref s_Axis_PRECEDING_SIBLING), .unset] [])) _
      refine XS.iconst X114.here hx rfl (hb hby at_25) ?_
      show Steps p.tables e below (T114.setTop (mkF m 26 #[.val (.int p1), .val (.int (8 : Int32)), .val (.ref s_Axis_PRECEDING_SIBLING), .unset] [(.int (0 : Int32))])) _
      refine XS.istoreN X114.here hx rfl (hb hby at_26) rfl (l' := #[.val (.int p1), .val (.int (8 : Int32)), .val (.ref s_Axis_PRECEDING_SIBLING), .val (.int (0 : Int32))]) rfl ?_
      show Steps p.tables e below (T114.setTop (mkF m 27 #[.val (.int p1), .val (.int (8 : Int32)), .val (.ref s_Axis_PRECEDING_SIBLING), .val (.int (0 : Int32))] [])) _
      refine XS.aloadN X114.here hx rfl (hb hby at_27) rfl rfl ?_
      exact k
    obtain ⟨cq116, kq116, q116a, q116b, q116c⟩ := isOf hZ e114 P17
    obtain ⟨_, _, ⟨T116, L116, k116, n116⟩, -, X116, ⟨Lc116, hQ116, l116, y116, z116⟩, st116⟩ := X114.virtualBack hx (y := (⟨"com/example/decider/decider/library/xpath/Axis", "leadsToOneNode", "()Z"⟩ : MethodName)) (z := (⟨"com/example/decider/decider/library/xpath/Axis", "leadsToOneNode", "()Z"⟩ : MethodName)) hown (mvT hZ (hw _ (List.mem_of_getElem? (i := 8) rfl))) (mvT hZ (hw _ (List.mem_of_getElem? (i := 9) rfl))) (notFace_of_selects (args := #[]) (mvT hZ (hw _ (List.mem_of_getElem? (i := 11) rfl)))) (mvT hZ (hw _ (List.mem_of_getElem? (i := 11) rfl))) (mvT hZ (hw _ (List.mem_of_getElem? (i := 10) rfl))) (by decide) (backOf (W := 0) (rm2 l Z a0 hw [] s_Axis_PRECEDING_SIBLING s_Axis_SELF s_Axis_PARENT h0 n0 Z0 P0 P4) hZ (hw _ (List.mem_of_getElem? (i := 12) rfl)) (hw _ (List.mem_of_getElem? (i := 6) rfl)) (by decide) (by decide)) q116a q116c (g := (mkF m 28 #[.val (.int p1), .val (.int (8 : Int32)), .val (.ref s_Axis_PRECEDING_SIBLING), .val (.int (0 : Int32))] [(.ref s_Axis_PRECEDING_SIBLING)])) rfl (by rw [hml]; rfl) (Steps.refl _) (argsL := []) (rest := []) (lenOf pd_1 rfl) rfl (by show 2 * 0 + _ ≤ _; exact Nat.le_of_eq rfl) (hb hby at_28) (fun _ _ => ⟨rfl, e114, (by decide : 0 + 0 ≤ _), (by decide : 0 + 0 ≤ _)⟩)
    dsimp only [Pt.U, Pt.locs, Pt.cells, Pt.slots] at X116 l116 y116 z116 st116 hQ116
    subst l116 y116 z116
    obtain ⟨rfl, Nq116, e116⟩ := hQ116
    have N116 := Fr.app N114 Nq116
    refine own_go (A := _) (B := T116.setTop (mkF m 31 #[.val (.int p1), .val (.int (8 : Int32)), .val (.ref s_Axis_PRECEDING_SIBLING), .val (.int (0 : Int32))] [(.int (frm2 s_Axis_PRECEDING_SIBLING s_Axis_SELF s_Axis_PARENT))])) (fun t k => st116.trans k) ?_
    refine own_go (A := T116.setTop (mkF m 31 #[.val (.int p1), .val (.int (8 : Int32)), .val (.ref s_Axis_PRECEDING_SIBLING), .val (.int (0 : Int32))] [(.int (frm2 s_Axis_PRECEDING_SIBLING s_Axis_SELF s_Axis_PARENT))])) (B := T116.setTop (mkF m 32 #[.val (.int p1), .val (.int (8 : Int32)), .val (.ref s_Axis_PRECEDING_SIBLING), .val (.int (0 : Int32))] [(.int (0 : Int32)), (.int (frm2 s_Axis_PRECEDING_SIBLING s_Axis_SELF s_Axis_PARENT))])) (fun t k => ?_) ?_
    · show Steps p.tables e below (T116.setTop (mkF m 31 #[.val (.int p1), .val (.int (8 : Int32)), .val (.ref s_Axis_PRECEDING_SIBLING), .val (.int (0 : Int32))] [(.int (frm2 s_Axis_PRECEDING_SIBLING s_Axis_SELF s_Axis_PARENT))])) _
      refine XS.iloadN X116.here hx rfl (hb hby at_31) rfl ?_
      exact k
    have hc32_117 : ((frm2 s_Axis_PRECEDING_SIBLING s_Axis_SELF s_Axis_PARENT) = (0 : Int32)) := by simp [frm2, ne_s_Axis_PRECEDING_SIBLING_s_Axis_SELF, ne_s_Axis_PRECEDING_SIBLING_s_Axis_PARENT]
    refine own_go (A := T116.setTop (mkF m 32 #[.val (.int p1), .val (.int (8 : Int32)), .val (.ref s_Axis_PRECEDING_SIBLING), .val (.int (0 : Int32))] [(.int (0 : Int32)), (.int (frm2 s_Axis_PRECEDING_SIBLING s_Axis_SELF s_Axis_PARENT))])) (B := T116.setTop (mkF m 40 #[.val (.int p1), .val (.int (8 : Int32)), .val (.ref s_Axis_PRECEDING_SIBLING), .val (.int (0 : Int32))] [(.int (1 : Int32))])) (fun t k => ?_) ?_
    · show Steps p.tables e below (T116.setTop (mkF m 32 #[.val (.int p1), .val (.int (8 : Int32)), .val (.ref s_Axis_PRECEDING_SIBLING), .val (.int (0 : Int32))] [(.int (0 : Int32)), (.int (frm2 s_Axis_PRECEDING_SIBLING s_Axis_SELF s_Axis_PARENT))])) _
      refine XS.icmpNo X116.here hx rfl (hb hby at_32) rfl (teq hc32_117).2 ?_
      show Steps p.tables e below (T116.setTop (mkF m 35 #[.val (.int p1), .val (.int (8 : Int32)), .val (.ref s_Axis_PRECEDING_SIBLING), .val (.int (0 : Int32))] [])) _
      refine XS.iconst X116.here hx rfl (hb hby at_35) ?_
      show Steps p.tables e below (T116.setTop (mkF m 36 #[.val (.int p1), .val (.int (8 : Int32)), .val (.ref s_Axis_PRECEDING_SIBLING), .val (.int (0 : Int32))] [(.int (1 : Int32))])) _
      refine XS.goto X116.here hx rfl (pc0 := 36) (pc' := 40) rfl (hb hby at_36) (by decide) (by decide) ?_
      exact k
    obtain ⟨fs, hr, hrun, hended, hW, hsame⟩ := X116.leave (v := some (.int (1 : Int32))) (fun h => by rw [Bd.returns] at h; cases h)
    refine ⟨_, _, ?_, hrun, hended, _, _, rfl, ?_, ⟨_, rfl⟩, hW, hsame.mono (by decide) (by decide)⟩
    · show Steps p.tables e below (T116.setTop (mkF m 40 #[.val (.int p1), .val (.int (8 : Int32)), .val (.ref s_Axis_PRECEDING_SIBLING), .val (.int (0 : Int32))] [(.int (1 : Int32))])) _
      exact retN X116 hx (t := .boolean) Bd.returns (by simp) (hb hby at_40) hr
    · show Qrm0 Z p1 s_Axis_SELF s_Axis_CHILD s_Axis_PARENT s_Axis_DESCENDANT s_Axis_DESCENDANT_OR_SELF s_Axis_ANCESTOR s_Axis_ANCESTOR_OR_SELF s_Axis_FOLLOWING_SIBLING s_Axis_PRECEDING_SIBLING s_Axis_FOLLOWING s_Axis_PRECEDING h0 n0 _ T116.heap _
      rw [e116]
      exact ⟨rfl, N116⟩
  · rw [hk81]
    refine own_go (A := s₁.setTop (mkF m 7 #[.val (.int p1), .unset, .unset, .unset] [(.int (9 : Int32))])) (B := s₁.setTop (mkF m 9 #[.val (.int p1), .val (.int (9 : Int32)), .unset, .unset] [(.int (9 : Int32))])) (fun t k => ?_) ?_
    · show Steps p.tables e below (s₁.setTop (mkF m 7 #[.val (.int p1), .unset, .unset, .unset] [(.int (9 : Int32))])) _
      refine XS.istoreN X0.here hx rfl (hb hby at_7) rfl (l' := #[.val (.int p1), .val (.int (9 : Int32)), .unset, .unset]) rfl ?_
      show Steps p.tables e below (s₁.setTop (mkF m 8 #[.val (.int p1), .val (.int (9 : Int32)), .unset, .unset] [])) _
      refine XS.iloadN X0.here hx rfl (hb hby at_8) rfl ?_
      exact k
    obtain ⟨_, _, ⟨T118, L118, k118, n118⟩, -, X118, ⟨Lc118, hQ118, l118, y118, z118⟩, st118⟩ := Jvm.LawKit.callS X0 hx (y := (⟨"com/example/decider/decider/library/xpath/AxisLeadsToOneNodePinLaw", "pick", "(I)Lcom/example/decider/decider/library/xpath/Axis;"⟩ : MethodName)) hown (mvT hZ (hw _ (List.mem_of_getElem? (i := 1) rfl))) (mvT hZ (hw _ (List.mem_of_getElem? (i := 2) rfl))) (mvT hZ (hw _ (List.mem_of_getElem? (i := 3) rfl))) (mvT hZ (hw _ (List.mem_of_getElem? (i := 4) rfl))) (by decide) (backOf (W := 0) (rm1_9 l Z a0 hw [] s_Axis_FOLLOWING h0 n0 Z0 P18) hZ (hw _ (List.mem_of_getElem? (i := 4) rfl)) (hw _ (List.mem_of_getElem? (i := 3) rfl)) (by decide) (by decide)) (g := (mkF m 9 #[.val (.int p1), .val (.int (9 : Int32)), .unset, .unset] [(.int (9 : Int32))])) rfl (by rw [hml]; rfl) (argsL := [(.int (9 : Int32))]) (rest := []) (lenOf pd_0 rfl) rfl (by show 2 * 0 + _ ≤ _; exact Nat.le_of_eq rfl) (hb hby at_9) (fun _ _ => ⟨rfl, e0, (by decide : 0 + 0 ≤ _), (by decide : 0 + 0 ≤ _)⟩)
    dsimp only [Pt.U, Pt.locs, Pt.cells, Pt.slots] at X118 l118 y118 z118 st118 hQ118
    subst l118 y118 z118
    obtain ⟨rfl, Nq118, e118⟩ := hQ118
    have N118 := Fr.app N0 Nq118
    refine own_go (A := _) (B := T118.setTop (mkF m 12 #[.val (.int p1), .val (.int (9 : Int32)), .unset, .unset] [(.ref s_Axis_FOLLOWING)])) st118 ?_
    refine own_go (A := T118.setTop (mkF m 12 #[.val (.int p1), .val (.int (9 : Int32)), .unset, .unset] [(.ref s_Axis_FOLLOWING)])) (B := T118.setTop (mkF m 28 #[.val (.int p1), .val (.int (9 : Int32)), .val (.ref s_Axis_FOLLOWING), .val (.int (0 : Int32))] [(.ref s_Axis_FOLLOWING)])) (fun t k => ?_) ?_
    · show Steps p.tables e below (T118.setTop (mkF m 12 #[.val (.int p1), .val (.int (9 : Int32)), .unset, .unset] [(.ref s_Axis_FOLLOWING)])) _
      refine XS.astoreN X118.here hx rfl (hb hby at_12) rfl rfl (l' := #[.val (.int p1), .val (.int (9 : Int32)), .val (.ref s_Axis_FOLLOWING), .unset]) rfl ?_
      show Steps p.tables e below (T118.setTop (mkF m 13 #[.val (.int p1), .val (.int (9 : Int32)), .val (.ref s_Axis_FOLLOWING), .unset] [])) _
      refine XS.iconst X118.here hx rfl (hb hby at_13) ?_
      show Steps p.tables e below (T118.setTop (mkF m 14 #[.val (.int p1), .val (.int (9 : Int32)), .val (.ref s_Axis_FOLLOWING), .unset] [(.int (5 : Int32))])) _
      refine XS.iloadN X118.here hx rfl (hb hby at_14) rfl ?_
      show Steps p.tables e below (T118.setTop (mkF m 15 #[.val (.int p1), .val (.int (9 : Int32)), .val (.ref s_Axis_FOLLOWING), .unset] [(.int (9 : Int32)), (.int (5 : Int32))])) _
      refine XS.ishr X118.here hx rfl (hb hby at_15) rfl ?_
      show Steps p.tables e below (T118.setTop (mkF m 16 #[.val (.int p1), .val (.int (9 : Int32)), .val (.ref s_Axis_FOLLOWING), .unset] [(.int (0 : Int32))])) _
      refine XS.iconst X118.here hx rfl (hb hby at_16) ?_
      show Steps p.tables e below (T118.setTop (mkF m 17 #[.val (.int p1), .val (.int (9 : Int32)), .val (.ref s_Axis_FOLLOWING), .unset] [(.int (1 : Int32)), (.int (0 : Int32))])) _
      refine XS.iand X118.here hx rfl (hb hby at_17) rfl ?_
      show Steps p.tables e below (T118.setTop (mkF m 18 #[.val (.int p1), .val (.int (9 : Int32)), .val (.ref s_Axis_FOLLOWING), .unset] [(.int (0 : Int32))])) _
      refine XS.ifYes X118.here hx rfl (pc0 := 18) (pc' := 25) rfl (hb hby at_18) rfl ((if0 _ _).trans (teq (rfl : (0 : Int32) = (0 : Int32))).1) (by decide) (by decide) ?_
      show Steps p.tables e below (T118.setTop (mkF m 25 #[.val (.int p1), .val (.int (9 : Int32)), .val (.ref s_Axis_FOLLOWING), .unset] [])) _
      refine XS.iconst X118.here hx rfl (hb hby at_25) ?_
      show Steps p.tables e below (T118.setTop (mkF m 26 #[.val (.int p1), .val (.int (9 : Int32)), .val (.ref s_Axis_FOLLOWING), .unset] [(.int (0 : Int32))])) _
      refine XS.istoreN X118.here hx rfl (hb hby at_26) rfl (l' := #[.val (.int p1), .val (.int (9 : Int32)), .val (.ref s_Axis_FOLLOWING), .val (.int (0 : Int32))]) rfl ?_
      show Steps p.tables e below (T118.setTop (mkF m 27 #[.val (.int p1), .val (.int (9 : Int32)), .val (.ref s_Axis_FOLLOWING), .val (.int (0 : Int32))] [])) _
      refine XS.aloadN X118.here hx rfl (hb hby at_27) rfl rfl ?_
      exact k
    obtain ⟨cq120, kq120, q120a, q120b, q120c⟩ := isOf hZ e118 P19
    obtain ⟨_, _, ⟨T120, L120, k120, n120⟩, -, X120, ⟨Lc120, hQ120, l120, y120, z120⟩, st120⟩ := X118.virtualBack hx (y := (⟨"com/example/decider/decider/library/xpath/Axis", "leadsToOneNode", "()Z"⟩ : MethodName)) (z := (⟨"com/example/decider/decider/library/xpath/Axis", "leadsToOneNode", "()Z"⟩ : MethodName)) hown (mvT hZ (hw _ (List.mem_of_getElem? (i := 8) rfl))) (mvT hZ (hw _ (List.mem_of_getElem? (i := 9) rfl))) (notFace_of_selects (args := #[]) (mvT hZ (hw _ (List.mem_of_getElem? (i := 11) rfl)))) (mvT hZ (hw _ (List.mem_of_getElem? (i := 11) rfl))) (mvT hZ (hw _ (List.mem_of_getElem? (i := 10) rfl))) (by decide) (backOf (W := 0) (rm2 l Z a0 hw [] s_Axis_FOLLOWING s_Axis_SELF s_Axis_PARENT h0 n0 Z0 P0 P4) hZ (hw _ (List.mem_of_getElem? (i := 12) rfl)) (hw _ (List.mem_of_getElem? (i := 6) rfl)) (by decide) (by decide)) q120a q120c (g := (mkF m 28 #[.val (.int p1), .val (.int (9 : Int32)), .val (.ref s_Axis_FOLLOWING), .val (.int (0 : Int32))] [(.ref s_Axis_FOLLOWING)])) rfl (by rw [hml]; rfl) (Steps.refl _) (argsL := []) (rest := []) (lenOf pd_1 rfl) rfl (by show 2 * 0 + _ ≤ _; exact Nat.le_of_eq rfl) (hb hby at_28) (fun _ _ => ⟨rfl, e118, (by decide : 0 + 0 ≤ _), (by decide : 0 + 0 ≤ _)⟩)
    dsimp only [Pt.U, Pt.locs, Pt.cells, Pt.slots] at X120 l120 y120 z120 st120 hQ120
    subst l120 y120 z120
    obtain ⟨rfl, Nq120, e120⟩ := hQ120
    have N120 := Fr.app N118 Nq120
    refine own_go (A := _) (B := T120.setTop (mkF m 31 #[.val (.int p1), .val (.int (9 : Int32)), .val (.ref s_Axis_FOLLOWING), .val (.int (0 : Int32))] [(.int (frm2 s_Axis_FOLLOWING s_Axis_SELF s_Axis_PARENT))])) (fun t k => st120.trans k) ?_
    refine own_go (A := T120.setTop (mkF m 31 #[.val (.int p1), .val (.int (9 : Int32)), .val (.ref s_Axis_FOLLOWING), .val (.int (0 : Int32))] [(.int (frm2 s_Axis_FOLLOWING s_Axis_SELF s_Axis_PARENT))])) (B := T120.setTop (mkF m 32 #[.val (.int p1), .val (.int (9 : Int32)), .val (.ref s_Axis_FOLLOWING), .val (.int (0 : Int32))] [(.int (0 : Int32)), (.int (frm2 s_Axis_FOLLOWING s_Axis_SELF s_Axis_PARENT))])) (fun t k => ?_) ?_
    · show Steps p.tables e below (T120.setTop (mkF m 31 #[.val (.int p1), .val (.int (9 : Int32)), .val (.ref s_Axis_FOLLOWING), .val (.int (0 : Int32))] [(.int (frm2 s_Axis_FOLLOWING s_Axis_SELF s_Axis_PARENT))])) _
      refine XS.iloadN X120.here hx rfl (hb hby at_31) rfl ?_
      exact k
    have hc32_121 : ((frm2 s_Axis_FOLLOWING s_Axis_SELF s_Axis_PARENT) = (0 : Int32)) := by simp [frm2, ne_s_Axis_FOLLOWING_s_Axis_SELF, ne_s_Axis_FOLLOWING_s_Axis_PARENT]
    refine own_go (A := T120.setTop (mkF m 32 #[.val (.int p1), .val (.int (9 : Int32)), .val (.ref s_Axis_FOLLOWING), .val (.int (0 : Int32))] [(.int (0 : Int32)), (.int (frm2 s_Axis_FOLLOWING s_Axis_SELF s_Axis_PARENT))])) (B := T120.setTop (mkF m 40 #[.val (.int p1), .val (.int (9 : Int32)), .val (.ref s_Axis_FOLLOWING), .val (.int (0 : Int32))] [(.int (1 : Int32))])) (fun t k => ?_) ?_
    · show Steps p.tables e below (T120.setTop (mkF m 32 #[.val (.int p1), .val (.int (9 : Int32)), .val (.ref s_Axis_FOLLOWING), .val (.int (0 : Int32))] [(.int (0 : Int32)), (.int (frm2 s_Axis_FOLLOWING s_Axis_SELF s_Axis_PARENT))])) _
      refine XS.icmpNo X120.here hx rfl (hb hby at_32) rfl (teq hc32_121).2 ?_
      show Steps p.tables e below (T120.setTop (mkF m 35 #[.val (.int p1), .val (.int (9 : Int32)), .val (.ref s_Axis_FOLLOWING), .val (.int (0 : Int32))] [])) _
      refine XS.iconst X120.here hx rfl (hb hby at_35) ?_
      show Steps p.tables e below (T120.setTop (mkF m 36 #[.val (.int p1), .val (.int (9 : Int32)), .val (.ref s_Axis_FOLLOWING), .val (.int (0 : Int32))] [(.int (1 : Int32))])) _
      refine XS.goto X120.here hx rfl (pc0 := 36) (pc' := 40) rfl (hb hby at_36) (by decide) (by decide) ?_
      exact k
    obtain ⟨fs, hr, hrun, hended, hW, hsame⟩ := X120.leave (v := some (.int (1 : Int32))) (fun h => by rw [Bd.returns] at h; cases h)
    refine ⟨_, _, ?_, hrun, hended, _, _, rfl, ?_, ⟨_, rfl⟩, hW, hsame.mono (by decide) (by decide)⟩
    · show Steps p.tables e below (T120.setTop (mkF m 40 #[.val (.int p1), .val (.int (9 : Int32)), .val (.ref s_Axis_FOLLOWING), .val (.int (0 : Int32))] [(.int (1 : Int32))])) _
      exact retN X120 hx (t := .boolean) Bd.returns (by simp) (hb hby at_40) hr
    · show Qrm0 Z p1 s_Axis_SELF s_Axis_CHILD s_Axis_PARENT s_Axis_DESCENDANT s_Axis_DESCENDANT_OR_SELF s_Axis_ANCESTOR s_Axis_ANCESTOR_OR_SELF s_Axis_FOLLOWING_SIBLING s_Axis_PRECEDING_SIBLING s_Axis_FOLLOWING s_Axis_PRECEDING h0 n0 _ T120.heap _
      rw [e120]
      exact ⟨rfl, N120⟩
  · rw [hk81]
    refine own_go (A := s₁.setTop (mkF m 7 #[.val (.int p1), .unset, .unset, .unset] [(.int (10 : Int32))])) (B := s₁.setTop (mkF m 9 #[.val (.int p1), .val (.int (10 : Int32)), .unset, .unset] [(.int (10 : Int32))])) (fun t k => ?_) ?_
    · show Steps p.tables e below (s₁.setTop (mkF m 7 #[.val (.int p1), .unset, .unset, .unset] [(.int (10 : Int32))])) _
      refine XS.istoreN X0.here hx rfl (hb hby at_7) rfl (l' := #[.val (.int p1), .val (.int (10 : Int32)), .unset, .unset]) rfl ?_
      show Steps p.tables e below (s₁.setTop (mkF m 8 #[.val (.int p1), .val (.int (10 : Int32)), .unset, .unset] [])) _
      refine XS.iloadN X0.here hx rfl (hb hby at_8) rfl ?_
      exact k
    obtain ⟨_, _, ⟨T122, L122, k122, n122⟩, -, X122, ⟨Lc122, hQ122, l122, y122, z122⟩, st122⟩ := Jvm.LawKit.callS X0 hx (y := (⟨"com/example/decider/decider/library/xpath/AxisLeadsToOneNodePinLaw", "pick", "(I)Lcom/example/decider/decider/library/xpath/Axis;"⟩ : MethodName)) hown (mvT hZ (hw _ (List.mem_of_getElem? (i := 1) rfl))) (mvT hZ (hw _ (List.mem_of_getElem? (i := 2) rfl))) (mvT hZ (hw _ (List.mem_of_getElem? (i := 3) rfl))) (mvT hZ (hw _ (List.mem_of_getElem? (i := 4) rfl))) (by decide) (backOf (W := 0) (rm1_10 l Z a0 hw [] s_Axis_PRECEDING h0 n0 Z0 P20) hZ (hw _ (List.mem_of_getElem? (i := 4) rfl)) (hw _ (List.mem_of_getElem? (i := 3) rfl)) (by decide) (by decide)) (g := (mkF m 9 #[.val (.int p1), .val (.int (10 : Int32)), .unset, .unset] [(.int (10 : Int32))])) rfl (by rw [hml]; rfl) (argsL := [(.int (10 : Int32))]) (rest := []) (lenOf pd_0 rfl) rfl (by show 2 * 0 + _ ≤ _; exact Nat.le_of_eq rfl) (hb hby at_9) (fun _ _ => ⟨rfl, e0, (by decide : 0 + 0 ≤ _), (by decide : 0 + 0 ≤ _)⟩)
    dsimp only [Pt.U, Pt.locs, Pt.cells, Pt.slots] at X122 l122 y122 z122 st122 hQ122
    subst l122 y122 z122
    obtain ⟨rfl, Nq122, e122⟩ := hQ122
    have N122 := Fr.app N0 Nq122
    refine own_go (A := _) (B := T122.setTop (mkF m 12 #[.val (.int p1), .val (.int (10 : Int32)), .unset, .unset] [(.ref s_Axis_PRECEDING)])) st122 ?_
    refine own_go (A := T122.setTop (mkF m 12 #[.val (.int p1), .val (.int (10 : Int32)), .unset, .unset] [(.ref s_Axis_PRECEDING)])) (B := T122.setTop (mkF m 28 #[.val (.int p1), .val (.int (10 : Int32)), .val (.ref s_Axis_PRECEDING), .val (.int (0 : Int32))] [(.ref s_Axis_PRECEDING)])) (fun t k => ?_) ?_
    · show Steps p.tables e below (T122.setTop (mkF m 12 #[.val (.int p1), .val (.int (10 : Int32)), .unset, .unset] [(.ref s_Axis_PRECEDING)])) _
      refine XS.astoreN X122.here hx rfl (hb hby at_12) rfl rfl (l' := #[.val (.int p1), .val (.int (10 : Int32)), .val (.ref s_Axis_PRECEDING), .unset]) rfl ?_
      show Steps p.tables e below (T122.setTop (mkF m 13 #[.val (.int p1), .val (.int (10 : Int32)), .val (.ref s_Axis_PRECEDING), .unset] [])) _
      refine XS.iconst X122.here hx rfl (hb hby at_13) ?_
      show Steps p.tables e below (T122.setTop (mkF m 14 #[.val (.int p1), .val (.int (10 : Int32)), .val (.ref s_Axis_PRECEDING), .unset] [(.int (5 : Int32))])) _
      refine XS.iloadN X122.here hx rfl (hb hby at_14) rfl ?_
      show Steps p.tables e below (T122.setTop (mkF m 15 #[.val (.int p1), .val (.int (10 : Int32)), .val (.ref s_Axis_PRECEDING), .unset] [(.int (10 : Int32)), (.int (5 : Int32))])) _
      refine XS.ishr X122.here hx rfl (hb hby at_15) rfl ?_
      show Steps p.tables e below (T122.setTop (mkF m 16 #[.val (.int p1), .val (.int (10 : Int32)), .val (.ref s_Axis_PRECEDING), .unset] [(.int (0 : Int32))])) _
      refine XS.iconst X122.here hx rfl (hb hby at_16) ?_
      show Steps p.tables e below (T122.setTop (mkF m 17 #[.val (.int p1), .val (.int (10 : Int32)), .val (.ref s_Axis_PRECEDING), .unset] [(.int (1 : Int32)), (.int (0 : Int32))])) _
      refine XS.iand X122.here hx rfl (hb hby at_17) rfl ?_
      show Steps p.tables e below (T122.setTop (mkF m 18 #[.val (.int p1), .val (.int (10 : Int32)), .val (.ref s_Axis_PRECEDING), .unset] [(.int (0 : Int32))])) _
      refine XS.ifYes X122.here hx rfl (pc0 := 18) (pc' := 25) rfl (hb hby at_18) rfl ((if0 _ _).trans (teq (rfl : (0 : Int32) = (0 : Int32))).1) (by decide) (by decide) ?_
      show Steps p.tables e below (T122.setTop (mkF m 25 #[.val (.int p1), .val (.int (10 : Int32)), .val (.ref s_Axis_PRECEDING), .unset] [])) _
      refine XS.iconst X122.here hx rfl (hb hby at_25) ?_
      show Steps p.tables e below (T122.setTop (mkF m 26 #[.val (.int p1), .val (.int (10 : Int32)), .val (.ref s_Axis_PRECEDING), .unset] [(.int (0 : Int32))])) _
      refine XS.istoreN X122.here hx rfl (hb hby at_26) rfl (l' := #[.val (.int p1), .val (.int (10 : Int32)), .val (.ref s_Axis_PRECEDING), .val (.int (0 : Int32))]) rfl ?_
      show Steps p.tables e below (T122.setTop (mkF m 27 #[.val (.int p1), .val (.int (10 : Int32)), .val (.ref s_Axis_PRECEDING), .val (.int (0 : Int32))] [])) _
      refine XS.aloadN X122.here hx rfl (hb hby at_27) rfl rfl ?_
      exact k
    obtain ⟨cq124, kq124, q124a, q124b, q124c⟩ := isOf hZ e122 P21
    obtain ⟨_, _, ⟨T124, L124, k124, n124⟩, -, X124, ⟨Lc124, hQ124, l124, y124, z124⟩, st124⟩ := X122.virtualBack hx (y := (⟨"com/example/decider/decider/library/xpath/Axis", "leadsToOneNode", "()Z"⟩ : MethodName)) (z := (⟨"com/example/decider/decider/library/xpath/Axis", "leadsToOneNode", "()Z"⟩ : MethodName)) hown (mvT hZ (hw _ (List.mem_of_getElem? (i := 8) rfl))) (mvT hZ (hw _ (List.mem_of_getElem? (i := 9) rfl))) (notFace_of_selects (args := #[]) (mvT hZ (hw _ (List.mem_of_getElem? (i := 11) rfl)))) (mvT hZ (hw _ (List.mem_of_getElem? (i := 11) rfl))) (mvT hZ (hw _ (List.mem_of_getElem? (i := 10) rfl))) (by decide) (backOf (W := 0) (rm2 l Z a0 hw [] s_Axis_PRECEDING s_Axis_SELF s_Axis_PARENT h0 n0 Z0 P0 P4) hZ (hw _ (List.mem_of_getElem? (i := 12) rfl)) (hw _ (List.mem_of_getElem? (i := 6) rfl)) (by decide) (by decide)) q124a q124c (g := (mkF m 28 #[.val (.int p1), .val (.int (10 : Int32)), .val (.ref s_Axis_PRECEDING), .val (.int (0 : Int32))] [(.ref s_Axis_PRECEDING)])) rfl (by rw [hml]; rfl) (Steps.refl _) (argsL := []) (rest := []) (lenOf pd_1 rfl) rfl (by show 2 * 0 + _ ≤ _; exact Nat.le_of_eq rfl) (hb hby at_28) (fun _ _ => ⟨rfl, e122, (by decide : 0 + 0 ≤ _), (by decide : 0 + 0 ≤ _)⟩)
    dsimp only [Pt.U, Pt.locs, Pt.cells, Pt.slots] at X124 l124 y124 z124 st124 hQ124
    subst l124 y124 z124
    obtain ⟨rfl, Nq124, e124⟩ := hQ124
    have N124 := Fr.app N122 Nq124
    refine own_go (A := _) (B := T124.setTop (mkF m 31 #[.val (.int p1), .val (.int (10 : Int32)), .val (.ref s_Axis_PRECEDING), .val (.int (0 : Int32))] [(.int (frm2 s_Axis_PRECEDING s_Axis_SELF s_Axis_PARENT))])) (fun t k => st124.trans k) ?_
    refine own_go (A := T124.setTop (mkF m 31 #[.val (.int p1), .val (.int (10 : Int32)), .val (.ref s_Axis_PRECEDING), .val (.int (0 : Int32))] [(.int (frm2 s_Axis_PRECEDING s_Axis_SELF s_Axis_PARENT))])) (B := T124.setTop (mkF m 32 #[.val (.int p1), .val (.int (10 : Int32)), .val (.ref s_Axis_PRECEDING), .val (.int (0 : Int32))] [(.int (0 : Int32)), (.int (frm2 s_Axis_PRECEDING s_Axis_SELF s_Axis_PARENT))])) (fun t k => ?_) ?_
    · show Steps p.tables e below (T124.setTop (mkF m 31 #[.val (.int p1), .val (.int (10 : Int32)), .val (.ref s_Axis_PRECEDING), .val (.int (0 : Int32))] [(.int (frm2 s_Axis_PRECEDING s_Axis_SELF s_Axis_PARENT))])) _
      refine XS.iloadN X124.here hx rfl (hb hby at_31) rfl ?_
      exact k
    have hc32_125 : ((frm2 s_Axis_PRECEDING s_Axis_SELF s_Axis_PARENT) = (0 : Int32)) := by simp [frm2, ne_s_Axis_PRECEDING_s_Axis_SELF, ne_s_Axis_PRECEDING_s_Axis_PARENT]
    refine own_go (A := T124.setTop (mkF m 32 #[.val (.int p1), .val (.int (10 : Int32)), .val (.ref s_Axis_PRECEDING), .val (.int (0 : Int32))] [(.int (0 : Int32)), (.int (frm2 s_Axis_PRECEDING s_Axis_SELF s_Axis_PARENT))])) (B := T124.setTop (mkF m 40 #[.val (.int p1), .val (.int (10 : Int32)), .val (.ref s_Axis_PRECEDING), .val (.int (0 : Int32))] [(.int (1 : Int32))])) (fun t k => ?_) ?_
    · show Steps p.tables e below (T124.setTop (mkF m 32 #[.val (.int p1), .val (.int (10 : Int32)), .val (.ref s_Axis_PRECEDING), .val (.int (0 : Int32))] [(.int (0 : Int32)), (.int (frm2 s_Axis_PRECEDING s_Axis_SELF s_Axis_PARENT))])) _
      refine XS.icmpNo X124.here hx rfl (hb hby at_32) rfl (teq hc32_125).2 ?_
      show Steps p.tables e below (T124.setTop (mkF m 35 #[.val (.int p1), .val (.int (10 : Int32)), .val (.ref s_Axis_PRECEDING), .val (.int (0 : Int32))] [])) _
      refine XS.iconst X124.here hx rfl (hb hby at_35) ?_
      show Steps p.tables e below (T124.setTop (mkF m 36 #[.val (.int p1), .val (.int (10 : Int32)), .val (.ref s_Axis_PRECEDING), .val (.int (0 : Int32))] [(.int (1 : Int32))])) _
      refine XS.goto X124.here hx rfl (pc0 := 36) (pc' := 40) rfl (hb hby at_36) (by decide) (by decide) ?_
      exact k
    obtain ⟨fs, hr, hrun, hended, hW, hsame⟩ := X124.leave (v := some (.int (1 : Int32))) (fun h => by rw [Bd.returns] at h; cases h)
    refine ⟨_, _, ?_, hrun, hended, _, _, rfl, ?_, ⟨_, rfl⟩, hW, hsame.mono (by decide) (by decide)⟩
    · show Steps p.tables e below (T124.setTop (mkF m 40 #[.val (.int p1), .val (.int (10 : Int32)), .val (.ref s_Axis_PRECEDING), .val (.int (0 : Int32))] [(.int (1 : Int32))])) _
      exact retN X124 hx (t := .boolean) Bd.returns (by simp) (hb hby at_40) hr
    · show Qrm0 Z p1 s_Axis_SELF s_Axis_CHILD s_Axis_PARENT s_Axis_DESCENDANT s_Axis_DESCENDANT_OR_SELF s_Axis_ANCESTOR s_Axis_ANCESTOR_OR_SELF s_Axis_FOLLOWING_SIBLING s_Axis_PRECEDING_SIBLING s_Axis_FOLLOWING s_Axis_PRECEDING h0 n0 _ T124.heap _
      rw [e124]
      exact ⟨rfl, N124⟩
set_option maxRecDepth 65536 in
set_option maxHeartbeats 40000000 in
theorem comes_1 {Post : Tables → Env → Array Value → State → Outcome → State → Prop} (hpost : ∀ tb e args s v u, (limb_1_1.after args s (.returned v) u = true ∧ limb_1_2.after args s (.returned v) u = true ∧ True) → FrameEnd s (.returned v) u (Jvm.fieldLocs frame_1_writes args s ++ Jvm.arrayLocs frame_1_arrays args s ++ Jvm.staticLocs frame_1_statics s) 0 0 → Post tb e args s (.returned v) u) :
    ArmFor flags0 classFile x code maxLocals ret World_1 tables_1 room_1 Calls_1 rest_1 Pre_1 Post := by
  intro l hfl _ _ p e ha hc hk s m args below hf hA hF happ hP
  obtain ⟨hcalls, hrest, hpre⟩ := hP
  obtain ⟨-, -, -, hnamed, -, -, -, hat⟩ := (Spec.applies_iff hf).mp happ
  obtain ⟨hg, hn⟩ := and_e (Cond.before_iff.mp (show (Jvm.Cond.and given_1 narrow_1).before args s = true from hpre))
  obtain ⟨hg0, hgs⟩ := and_e hg
  obtain ⟨w0, rfl⟩ : ∃ w0 : Value, args = #[w0] := by
    have hs : args.size = 1 := by simpa [Cond.value, given_1] using hg0
    obtain ⟨L⟩ := args
    match L, hs with
    | [w0], _ => exact ⟨w0, rfl⟩
  have hw := fun d (hd : d ∈ tables_1) => atoms_spec (ws := Jvm.Cond.code x code maxLocals ret :: tables_1) hat d (List.mem_cons_of_mem _ hd)
  have hfit : Fit s := fun {y c} hc i hi => by
    obtain ⟨ha, rfl⟩ := Array.getElem?_eq_some_iff.mp hc
    have q := List.all_eq_true.mp ((Array.all_eq_true_iff_forall_mem.mp hF) _ (Array.getElem_mem ha)) i (List.mem_range.mpr hi)
    simpa [Array.getElem?_eq_getElem hi] using q
  obtain ⟨i0, ei0⟩ := is_v hgs
  obtain rfl : w0 = (.int i0) := Option.some.inj ei0
  obtain ⟨nw0, nr0⟩ := and_e hn
  obtain ⟨nw1, nr1⟩ := and_e nr0
  obtain ⟨nw2, nr2⟩ := and_e nr1
  obtain ⟨nw3, nr3⟩ := and_e nr2
  obtain ⟨nw4, nr4⟩ := and_e nr3
  obtain ⟨nw5, nr5⟩ := and_e nr4
  obtain ⟨nw6, nr6⟩ := and_e nr5
  obtain ⟨nw7, nr7⟩ := and_e nr6
  obtain ⟨nw8, nr8⟩ := and_e nr7
  obtain ⟨nw9, nr9⟩ := and_e nr8
  obtain ⟨nw10, nr10⟩ := and_e nr9
  obtain ⟨nw11, nr11⟩ := and_e nr10
  obtain ⟨nw12, nr12⟩ := and_e nr11
  obtain ⟨nw13, nr13⟩ := and_e nr12
  obtain ⟨nw14, nr14⟩ := and_e nr13
  obtain ⟨nw15, nr15⟩ := and_e nr14
  obtain ⟨nw16, nr16⟩ := and_e nr15
  obtain ⟨nw17, nr17⟩ := and_e nr16
  obtain ⟨nw18, nr18⟩ := and_e nr17
  obtain ⟨nw19, nr19⟩ := and_e nr18
  obtain ⟨nw20, nr20⟩ := and_e nr19
  obtain ⟨s_Axis_SELF, ev_s_Axis_SELF⟩ := exa_v nw0
  have S_s_Axis_SELF : Sta s s.heap "com/example/decider/decider/library/xpath/Axis" "SELF" "Lcom/example/decider/decider/library/xpath/Axis;" (.ref s_Axis_SELF) := Sta.start ev_s_Axis_SELF (Or.inr ⟨(hw _ (List.mem_of_getElem? (i := 6) rfl)), (hw _ (List.mem_of_getElem? (i := 7) rfl))⟩)
  have E_s_Axis_SELF : Exa s s.heap s_Axis_SELF "com/example/decider/decider/library/xpath/Axis" := Exa.start ev_s_Axis_SELF nw0
  obtain ⟨s_Axis_DESCENDANT, ev_s_Axis_DESCENDANT⟩ := exa_v nw1
  have S_s_Axis_DESCENDANT : Sta s s.heap "com/example/decider/decider/library/xpath/Axis" "DESCENDANT" "Lcom/example/decider/decider/library/xpath/Axis;" (.ref s_Axis_DESCENDANT) := Sta.start ev_s_Axis_DESCENDANT (Or.inr ⟨(hw _ (List.mem_of_getElem? (i := 6) rfl)), (hw _ (List.mem_of_getElem? (i := 15) rfl))⟩)
  have E_s_Axis_DESCENDANT : Exa s s.heap s_Axis_DESCENDANT "com/example/decider/decider/library/xpath/Axis" := Exa.start ev_s_Axis_DESCENDANT nw1
  obtain ⟨s_Axis_PARENT, ev_s_Axis_PARENT⟩ := exa_v nw4
  have S_s_Axis_PARENT : Sta s s.heap "com/example/decider/decider/library/xpath/Axis" "PARENT" "Lcom/example/decider/decider/library/xpath/Axis;" (.ref s_Axis_PARENT) := Sta.start ev_s_Axis_PARENT (Or.inr ⟨(hw _ (List.mem_of_getElem? (i := 6) rfl)), (hw _ (List.mem_of_getElem? (i := 17) rfl))⟩)
  have E_s_Axis_PARENT : Exa s s.heap s_Axis_PARENT "com/example/decider/decider/library/xpath/Axis" := Exa.start ev_s_Axis_PARENT nw4
  obtain ⟨s_Axis_FOLLOWING_SIBLING, ev_s_Axis_FOLLOWING_SIBLING⟩ := exa_v nw6
  have S_s_Axis_FOLLOWING_SIBLING : Sta s s.heap "com/example/decider/decider/library/xpath/Axis" "FOLLOWING_SIBLING" "Lcom/example/decider/decider/library/xpath/Axis;" (.ref s_Axis_FOLLOWING_SIBLING) := Sta.start ev_s_Axis_FOLLOWING_SIBLING (Or.inr ⟨(hw _ (List.mem_of_getElem? (i := 6) rfl)), (hw _ (List.mem_of_getElem? (i := 19) rfl))⟩)
  have E_s_Axis_FOLLOWING_SIBLING : Exa s s.heap s_Axis_FOLLOWING_SIBLING "com/example/decider/decider/library/xpath/Axis" := Exa.start ev_s_Axis_FOLLOWING_SIBLING nw6
  obtain ⟨s_Axis_PRECEDING_SIBLING, ev_s_Axis_PRECEDING_SIBLING⟩ := exa_v nw8
  have S_s_Axis_PRECEDING_SIBLING : Sta s s.heap "com/example/decider/decider/library/xpath/Axis" "PRECEDING_SIBLING" "Lcom/example/decider/decider/library/xpath/Axis;" (.ref s_Axis_PRECEDING_SIBLING) := Sta.start ev_s_Axis_PRECEDING_SIBLING (Or.inr ⟨(hw _ (List.mem_of_getElem? (i := 6) rfl)), (hw _ (List.mem_of_getElem? (i := 21) rfl))⟩)
  have E_s_Axis_PRECEDING_SIBLING : Exa s s.heap s_Axis_PRECEDING_SIBLING "com/example/decider/decider/library/xpath/Axis" := Exa.start ev_s_Axis_PRECEDING_SIBLING nw8
  obtain ⟨s_Axis_PRECEDING, ev_s_Axis_PRECEDING⟩ := exa_v nw10
  have S_s_Axis_PRECEDING : Sta s s.heap "com/example/decider/decider/library/xpath/Axis" "PRECEDING" "Lcom/example/decider/decider/library/xpath/Axis;" (.ref s_Axis_PRECEDING) := Sta.start ev_s_Axis_PRECEDING (Or.inr ⟨(hw _ (List.mem_of_getElem? (i := 6) rfl)), (hw _ (List.mem_of_getElem? (i := 24) rfl))⟩)
  have E_s_Axis_PRECEDING : Exa s s.heap s_Axis_PRECEDING "com/example/decider/decider/library/xpath/Axis" := Exa.start ev_s_Axis_PRECEDING nw10
  obtain ⟨s_Axis_CHILD, ev_s_Axis_CHILD⟩ := exa_v nw12
  have S_s_Axis_CHILD : Sta s s.heap "com/example/decider/decider/library/xpath/Axis" "CHILD" "Lcom/example/decider/decider/library/xpath/Axis;" (.ref s_Axis_CHILD) := Sta.start ev_s_Axis_CHILD (Or.inr ⟨(hw _ (List.mem_of_getElem? (i := 6) rfl)), (hw _ (List.mem_of_getElem? (i := 26) rfl))⟩)
  have E_s_Axis_CHILD : Exa s s.heap s_Axis_CHILD "com/example/decider/decider/library/xpath/Axis" := Exa.start ev_s_Axis_CHILD nw12
  obtain ⟨s_Axis_FOLLOWING, ev_s_Axis_FOLLOWING⟩ := exa_v nw14
  have S_s_Axis_FOLLOWING : Sta s s.heap "com/example/decider/decider/library/xpath/Axis" "FOLLOWING" "Lcom/example/decider/decider/library/xpath/Axis;" (.ref s_Axis_FOLLOWING) := Sta.start ev_s_Axis_FOLLOWING (Or.inr ⟨(hw _ (List.mem_of_getElem? (i := 6) rfl)), (hw _ (List.mem_of_getElem? (i := 28) rfl))⟩)
  have E_s_Axis_FOLLOWING : Exa s s.heap s_Axis_FOLLOWING "com/example/decider/decider/library/xpath/Axis" := Exa.start ev_s_Axis_FOLLOWING nw14
  obtain ⟨s_Axis_ANCESTOR, ev_s_Axis_ANCESTOR⟩ := exa_v nw16
  have S_s_Axis_ANCESTOR : Sta s s.heap "com/example/decider/decider/library/xpath/Axis" "ANCESTOR" "Lcom/example/decider/decider/library/xpath/Axis;" (.ref s_Axis_ANCESTOR) := Sta.start ev_s_Axis_ANCESTOR (Or.inr ⟨(hw _ (List.mem_of_getElem? (i := 6) rfl)), (hw _ (List.mem_of_getElem? (i := 30) rfl))⟩)
  have E_s_Axis_ANCESTOR : Exa s s.heap s_Axis_ANCESTOR "com/example/decider/decider/library/xpath/Axis" := Exa.start ev_s_Axis_ANCESTOR nw16
  obtain ⟨s_Axis_ANCESTOR_OR_SELF, ev_s_Axis_ANCESTOR_OR_SELF⟩ := exa_v nw18
  have S_s_Axis_ANCESTOR_OR_SELF : Sta s s.heap "com/example/decider/decider/library/xpath/Axis" "ANCESTOR_OR_SELF" "Lcom/example/decider/decider/library/xpath/Axis;" (.ref s_Axis_ANCESTOR_OR_SELF) := Sta.start ev_s_Axis_ANCESTOR_OR_SELF (Or.inr ⟨(hw _ (List.mem_of_getElem? (i := 6) rfl)), (hw _ (List.mem_of_getElem? (i := 32) rfl))⟩)
  have E_s_Axis_ANCESTOR_OR_SELF : Exa s s.heap s_Axis_ANCESTOR_OR_SELF "com/example/decider/decider/library/xpath/Axis" := Exa.start ev_s_Axis_ANCESTOR_OR_SELF nw18
  obtain ⟨s_Axis_DESCENDANT_OR_SELF, ev_s_Axis_DESCENDANT_OR_SELF⟩ := exa_v nw20
  have S_s_Axis_DESCENDANT_OR_SELF : Sta s s.heap "com/example/decider/decider/library/xpath/Axis" "DESCENDANT_OR_SELF" "Lcom/example/decider/decider/library/xpath/Axis;" (.ref s_Axis_DESCENDANT_OR_SELF) := Sta.start ev_s_Axis_DESCENDANT_OR_SELF (Or.inr ⟨(hw _ (List.mem_of_getElem? (i := 6) rfl)), (hw _ (List.mem_of_getElem? (i := 34) rfl))⟩)
  have E_s_Axis_DESCENDANT_OR_SELF : Exa s s.heap s_Axis_DESCENDANT_OR_SELF "com/example/decider/decider/library/xpath/Axis" := Exa.start ev_s_Axis_DESCENDANT_OR_SELF nw20
  have O_s_Axis_DESCENDANT : Fld s s.heap s_Axis_DESCENDANT "java/lang/Enum" "ordinal" "I" (.int (3 : Int32)) := Fld.start ((fld_at ev_s_Axis_DESCENDANT).symm.trans (own_eqint nw2))
  have O_s_Axis_SELF : Fld s s.heap s_Axis_SELF "java/lang/Enum" "ordinal" "I" (.int (0 : Int32)) := Fld.start ((fld_at ev_s_Axis_SELF).symm.trans (own_eqint nw3))
  have O_s_Axis_PARENT : Fld s s.heap s_Axis_PARENT "java/lang/Enum" "ordinal" "I" (.int (2 : Int32)) := Fld.start ((fld_at ev_s_Axis_PARENT).symm.trans (own_eqint nw5))
  have O_s_Axis_FOLLOWING_SIBLING : Fld s s.heap s_Axis_FOLLOWING_SIBLING "java/lang/Enum" "ordinal" "I" (.int (7 : Int32)) := Fld.start ((fld_at ev_s_Axis_FOLLOWING_SIBLING).symm.trans (own_eqint nw7))
  have O_s_Axis_PRECEDING_SIBLING : Fld s s.heap s_Axis_PRECEDING_SIBLING "java/lang/Enum" "ordinal" "I" (.int (8 : Int32)) := Fld.start ((fld_at ev_s_Axis_PRECEDING_SIBLING).symm.trans (own_eqint nw9))
  have O_s_Axis_PRECEDING : Fld s s.heap s_Axis_PRECEDING "java/lang/Enum" "ordinal" "I" (.int (10 : Int32)) := Fld.start ((fld_at ev_s_Axis_PRECEDING).symm.trans (own_eqint nw11))
  have O_s_Axis_CHILD : Fld s s.heap s_Axis_CHILD "java/lang/Enum" "ordinal" "I" (.int (1 : Int32)) := Fld.start ((fld_at ev_s_Axis_CHILD).symm.trans (own_eqint nw13))
  have O_s_Axis_FOLLOWING : Fld s s.heap s_Axis_FOLLOWING "java/lang/Enum" "ordinal" "I" (.int (9 : Int32)) := Fld.start ((fld_at ev_s_Axis_FOLLOWING).symm.trans (own_eqint nw15))
  have O_s_Axis_ANCESTOR : Fld s s.heap s_Axis_ANCESTOR "java/lang/Enum" "ordinal" "I" (.int (5 : Int32)) := Fld.start ((fld_at ev_s_Axis_ANCESTOR).symm.trans (own_eqint nw17))
  have O_s_Axis_ANCESTOR_OR_SELF : Fld s s.heap s_Axis_ANCESTOR_OR_SELF "java/lang/Enum" "ordinal" "I" (.int (6 : Int32)) := Fld.start ((fld_at ev_s_Axis_ANCESTOR_OR_SELF).symm.trans (own_eqint nw19))
  have O_s_Axis_DESCENDANT_OR_SELF : Fld s s.heap s_Axis_DESCENDANT_OR_SELF "java/lang/Enum" "ordinal" "I" (.int (4 : Int32)) := Fld.start ((fld_at ev_s_Axis_DESCENDANT_OR_SELF).symm.trans (own_eqint nr20))
  have ne_s_Axis_CHILD_s_Axis_SELF : s_Axis_CHILD ≠ s_Axis_SELF := Fld.ne O_s_Axis_CHILD O_s_Axis_SELF (by simp)
  have ne_s_Axis_CHILD_s_Axis_PARENT : s_Axis_CHILD ≠ s_Axis_PARENT := Fld.ne O_s_Axis_CHILD O_s_Axis_PARENT (by simp)
  have ne_s_Axis_PARENT_s_Axis_SELF : s_Axis_PARENT ≠ s_Axis_SELF := Fld.ne O_s_Axis_PARENT O_s_Axis_SELF (by simp)
  have ne_s_Axis_DESCENDANT_s_Axis_SELF : s_Axis_DESCENDANT ≠ s_Axis_SELF := Fld.ne O_s_Axis_DESCENDANT O_s_Axis_SELF (by simp)
  have ne_s_Axis_DESCENDANT_s_Axis_PARENT : s_Axis_DESCENDANT ≠ s_Axis_PARENT := Fld.ne O_s_Axis_DESCENDANT O_s_Axis_PARENT (by simp)
  have ne_s_Axis_DESCENDANT_OR_SELF_s_Axis_SELF : s_Axis_DESCENDANT_OR_SELF ≠ s_Axis_SELF := Fld.ne O_s_Axis_DESCENDANT_OR_SELF O_s_Axis_SELF (by simp)
  have ne_s_Axis_DESCENDANT_OR_SELF_s_Axis_PARENT : s_Axis_DESCENDANT_OR_SELF ≠ s_Axis_PARENT := Fld.ne O_s_Axis_DESCENDANT_OR_SELF O_s_Axis_PARENT (by simp)
  have ne_s_Axis_ANCESTOR_s_Axis_SELF : s_Axis_ANCESTOR ≠ s_Axis_SELF := Fld.ne O_s_Axis_ANCESTOR O_s_Axis_SELF (by simp)
  have ne_s_Axis_ANCESTOR_s_Axis_PARENT : s_Axis_ANCESTOR ≠ s_Axis_PARENT := Fld.ne O_s_Axis_ANCESTOR O_s_Axis_PARENT (by simp)
  have ne_s_Axis_ANCESTOR_OR_SELF_s_Axis_SELF : s_Axis_ANCESTOR_OR_SELF ≠ s_Axis_SELF := Fld.ne O_s_Axis_ANCESTOR_OR_SELF O_s_Axis_SELF (by simp)
  have ne_s_Axis_ANCESTOR_OR_SELF_s_Axis_PARENT : s_Axis_ANCESTOR_OR_SELF ≠ s_Axis_PARENT := Fld.ne O_s_Axis_ANCESTOR_OR_SELF O_s_Axis_PARENT (by simp)
  have ne_s_Axis_FOLLOWING_SIBLING_s_Axis_SELF : s_Axis_FOLLOWING_SIBLING ≠ s_Axis_SELF := Fld.ne O_s_Axis_FOLLOWING_SIBLING O_s_Axis_SELF (by simp)
  have ne_s_Axis_FOLLOWING_SIBLING_s_Axis_PARENT : s_Axis_FOLLOWING_SIBLING ≠ s_Axis_PARENT := Fld.ne O_s_Axis_FOLLOWING_SIBLING O_s_Axis_PARENT (by simp)
  have ne_s_Axis_PRECEDING_SIBLING_s_Axis_SELF : s_Axis_PRECEDING_SIBLING ≠ s_Axis_SELF := Fld.ne O_s_Axis_PRECEDING_SIBLING O_s_Axis_SELF (by simp)
  have ne_s_Axis_PRECEDING_SIBLING_s_Axis_PARENT : s_Axis_PRECEDING_SIBLING ≠ s_Axis_PARENT := Fld.ne O_s_Axis_PRECEDING_SIBLING O_s_Axis_PARENT (by simp)
  have ne_s_Axis_FOLLOWING_s_Axis_SELF : s_Axis_FOLLOWING ≠ s_Axis_SELF := Fld.ne O_s_Axis_FOLLOWING O_s_Axis_SELF (by simp)
  have ne_s_Axis_FOLLOWING_s_Axis_PARENT : s_Axis_FOLLOWING ≠ s_Axis_PARENT := Fld.ne O_s_Axis_FOLLOWING O_s_Axis_PARENT (by simp)
  have ne_s_Axis_PRECEDING_s_Axis_SELF : s_Axis_PRECEDING ≠ s_Axis_SELF := Fld.ne O_s_Axis_PRECEDING O_s_Axis_SELF (by simp)
  have ne_s_Axis_PRECEDING_s_Axis_PARENT : s_Axis_PRECEDING ≠ s_Axis_PARENT := Fld.ne O_s_Axis_PRECEDING O_s_Axis_PARENT (by simp)
  obtain ⟨n, o, h1, h2, h3, _, L, rfl, ⟨hv, N⟩, hq⟩ := rm0 l s _ hw tables_1 i0 s_Axis_SELF s_Axis_CHILD s_Axis_PARENT s_Axis_DESCENDANT s_Axis_DESCENDANT_OR_SELF s_Axis_ANCESTOR s_Axis_ANCESTOR_OR_SELF s_Axis_FOLLOWING_SIBLING s_Axis_PRECEDING_SIBLING s_Axis_FOLLOWING s_Axis_PRECEDING s.heap s.heap.size (Nat.le_refl _) S_s_Axis_SELF E_s_Axis_SELF S_s_Axis_CHILD E_s_Axis_CHILD S_s_Axis_PARENT E_s_Axis_PARENT S_s_Axis_DESCENDANT E_s_Axis_DESCENDANT S_s_Axis_DESCENDANT_OR_SELF E_s_Axis_DESCENDANT_OR_SELF S_s_Axis_ANCESTOR E_s_Axis_ANCESTOR S_s_Axis_ANCESTOR_OR_SELF E_s_Axis_ANCESTOR_OR_SELF S_s_Axis_FOLLOWING_SIBLING E_s_Axis_FOLLOWING_SIBLING S_s_Axis_PRECEDING_SIBLING E_s_Axis_PRECEDING_SIBLING S_s_Axis_FOLLOWING E_s_Axis_FOLLOWING S_s_Axis_PRECEDING E_s_Axis_PRECEDING ne_s_Axis_CHILD_s_Axis_SELF ne_s_Axis_CHILD_s_Axis_PARENT ne_s_Axis_PARENT_s_Axis_SELF ne_s_Axis_DESCENDANT_s_Axis_SELF ne_s_Axis_DESCENDANT_s_Axis_PARENT ne_s_Axis_DESCENDANT_OR_SELF_s_Axis_SELF ne_s_Axis_DESCENDANT_OR_SELF_s_Axis_PARENT ne_s_Axis_ANCESTOR_s_Axis_SELF ne_s_Axis_ANCESTOR_s_Axis_PARENT ne_s_Axis_ANCESTOR_OR_SELF_s_Axis_SELF ne_s_Axis_ANCESTOR_OR_SELF_s_Axis_PARENT ne_s_Axis_FOLLOWING_SIBLING_s_Axis_SELF ne_s_Axis_FOLLOWING_SIBLING_s_Axis_PARENT ne_s_Axis_PRECEDING_SIBLING_s_Axis_SELF ne_s_Axis_PRECEDING_SIBLING_s_Axis_PARENT ne_s_Axis_FOLLOWING_s_Axis_SELF ne_s_Axis_FOLLOWING_s_Axis_PARENT ne_s_Axis_PRECEDING_s_Axis_SELF ne_s_Axis_PRECEDING_s_Axis_PARENT p e ha hc hk s m _ below hf ((Spec.applies_iff_loose hf).mp happ).1 ⟨rfl, State.Warmed39.refl s, rfl⟩ trivial
  obtain rfl := hv
  refine ⟨n, _, h1, h2, h3, hpost _ _ _ _ _ _ ⟨Cond.after_iff.mpr rfl, Cond.after_iff.mpr (eq_i res_at (Term.int_eval (1)) rfl), trivial⟩ ⟨hq.1, hq.2.1, (hq.2.2.sift fun y hy => Or.inr (N y hy)).mono (by decide) (by decide)⟩⟩
theorem main_1_1 : Claimed_1_1 := comes_1 fun _ _ _ _ _ _ h hF => ⟨h.1, hF⟩
theorem main_1_2 : Claimed_1_2 := comes_1 fun _ _ _ _ _ _ h hF => ⟨h.2.1, hF⟩
end Jvm.Pilot.@@N@@
namespace Jvm.Pilot.@@N@@
open Jvm Jvm.ClassFile Sem Op Lib Jvm.Free Jvm.Stand Jvm.Pilot.@@N@@.Jvm.D
/-! MADE BY PROGRAM (witnessworld.py) out of the Statement's table words and the real class files: 12 classes; the members and pool entries that the words name. The judged class is class 1, her method 1. -/
namespace start1
open Jvm.ClassFile
def u (s : String) : CpInfo := .utf8 (stringToUtf16 s)
/-- a pool by its gaps: so many unusable entries, then the entry; so many at the end -/
def gap : Nat → List CpInfo → List CpInfo
  | 0, r => r
  | n + 1, r => .unusable :: gap n r
def poolList (es : List (Nat × CpInfo)) (last : Nat) : List CpInfo := es.foldr (fun e r => gap e.1 (e.2 :: r)) (gap last [])
def pool (es : List (Nat × CpInfo)) (last : Nat) : Array CpInfo := ⟨poolList es last⟩
def fileOf (pool : Array CpInfo) (this : Nat) (attrs : Array Attribute := #[]) (ms : Array MethodInfo := #[]) (fl : Nat := 33) (sup : Nat := 0) (ifs : Array Nat := #[]) (fds : Array FieldInfo := #[]) : ClassFile where
  minorVersion := 0
  majorVersion := 65
  constantPool := pool
  accessFlags := fl
  thisClass := this
  superClass := sup
  interfaces := ifs
  fields := fds
  methods := ms
  attributes := attrs
def plain (name : String) (sup : Option ClassId) : Class where
  name := name
  kind := .ordinary
  loader := none
  accessFlags := 33
  super := sup
  interfaces := #[]
  cf := none
  fields := #[]
  methods := #[]
  instanceTypes := #[]
  staticTypes := #[]
  resolved := #[]
  callSites := []
  init := .initialized
  statics := none
  mirror := none

def pool0 : Array CpInfo := pool [(5, u "<init>"), (0, u "()V"), (1, .class_ 10), (1, u "java/lang/Object")] 113

def k0m0 : Method := { name := "<init>", desc := "()V", sig := { parameters := [], returnType := none }, accessFlags := 1, code := none }
/-- java/lang/Object -/
def k0 : Class := { plain "java/lang/Object" none with
  accessFlags := 33
  interfaces := #[]
  cf := some (fileOf pool0 8 #[] #[{ accessFlags := 1, nameIndex := 5, descriptorIndex := 6, attributes := #[] }] 33 0 #[] #[])
  fields := #[]
  methods := #[k0m0]
  instanceTypes := #[]
  staticTypes := #[]
  resolved := Array.replicate 124 none
  statics := none }

def pool1 : Array CpInfo := pool [(2, .class_ 4), (1, u "java/lang/Object"), (0, u "<init>"), (0, u "()V"), (0, .integer 2147483647), (0, .methodref 9 10), (0, .class_ 11), (0, .nameAndType 12 13), (0, u "com/example/decider/decider/library/xpath/AxisLeadsToOneNodePinLaw"), (0, u "pick"), (0, u "(I)Lcom/example/decider/decider/library/xpath/Axis;"), (0, .methodref 15 16), (0, .class_ 17), (0, .nameAndType 18 19), (0, u "com/example/decider/decider/library/xpath/Axis"), (0, u "leadsToOneNode"), (0, u "()Z"), (0, .fieldref 15 21), (0, .nameAndType 22 23), (0, u "SELF"), (0, u "Lcom/example/decider/decider/library/xpath/Axis;"), (0, .fieldref 15 25), (0, .nameAndType 26 23), (0, u "CHILD"), (0, .fieldref 15 28), (0, .nameAndType 29 23), (0, u "PARENT"), (0, .fieldref 15 31), (0, .nameAndType 32 23), (0, u "DESCENDANT"), (0, .fieldref 15 34), (0, .nameAndType 35 23), (0, u "DESCENDANT_OR_SELF"), (0, .fieldref 15 37), (0, .nameAndType 38 23), (0, u "ANCESTOR"), (0, .fieldref 15 40), (0, .nameAndType 41 23), (0, u "ANCESTOR_OR_SELF"), (0, .fieldref 15 43), (0, .nameAndType 44 23), (0, u "FOLLOWING_SIBLING"), (0, .fieldref 15 46), (0, .nameAndType 47 23), (0, u "PRECEDING_SIBLING"), (0, .fieldref 15 49), (0, .nameAndType 50 23), (0, u "FOLLOWING"), (0, .fieldref 15 52), (0, .nameAndType 53 23), (0, u "PRECEDING"), (2, u "law"), (0, u "(I)Z")] 3

def k1m0 : Method := { name := "<init>", desc := "()V", sig := { parameters := [], returnType := none }, accessFlags := 1, code := none }
def k1c1 : Code := { maxStack := 2, maxLocals := 4, code := code, exceptionTable := #[], attributes := #[] }
def k1m1 : Method := { name := "law", desc := "(I)Z", sig := { parameters := [.int], returnType := some .boolean }, accessFlags := 9, code := some k1c1 }
def k1c2 : Code := { maxStack := 2, maxLocals := 1, code := method_3_code, exceptionTable := #[], attributes := #[] }
def k1m2 : Method := { name := "pick", desc := "(I)Lcom/example/decider/decider/library/xpath/Axis;", sig := { parameters := [.int], returnType := some (.object "com/example/decider/decider/library/xpath/Axis") }, accessFlags := 10, code := some k1c2 }
/-- com/example/decider/decider/library/xpath/AxisLeadsToOneNodePinLaw -/
def k1 : Class := { plain "com/example/decider/decider/library/xpath/AxisLeadsToOneNodePinLaw" (some 0) with
  accessFlags := 49
  interfaces := #[]
  cf := some (fileOf pool1 9 #[] #[{ accessFlags := 1, nameIndex := 5, descriptorIndex := 6, attributes := #[] }, { accessFlags := 9, nameIndex := 56, descriptorIndex := 57, attributes := #[] }, { accessFlags := 10, nameIndex := 12, descriptorIndex := 13, attributes := #[] }] 49 2 #[] #[])
  fields := #[]
  methods := #[k1m0, k1m1, k1m2]
  instanceTypes := #[]
  staticTypes := #[]
  resolved := Array.replicate 61 none
  statics := none }

def pool2 : Array CpInfo := pool [(1, .class_ 2), (0, u "java/lang/constant/Constable"), (0, .class_ 4), (0, u "java/lang/Object")] 6

/-- java/lang/constant/Constable -/
def k2 : Class := { plain "java/lang/constant/Constable" (some 0) with
  accessFlags := 1537
  interfaces := #[]
  cf := some (fileOf pool2 1 #[] #[] 1537 3 #[] #[])
  fields := #[]
  methods := #[]
  instanceTypes := #[]
  staticTypes := #[]
  resolved := Array.replicate 11 none
  statics := none }

def pool3 : Array CpInfo := pool [(1, .class_ 2), (0, u "java/lang/Comparable"), (0, .class_ 4), (0, u "java/lang/Object")] 7

/-- java/lang/Comparable -/
def k3 : Class := { plain "java/lang/Comparable" (some 0) with
  accessFlags := 1537
  interfaces := #[]
  cf := some (fileOf pool3 1 #[] #[] 1537 3 #[] #[])
  fields := #[]
  methods := #[]
  instanceTypes := #[]
  staticTypes := #[]
  resolved := Array.replicate 12 none
  statics := none }

def pool4 : Array CpInfo := pool [(1, .class_ 2), (0, u "java/io/Serializable"), (0, .class_ 4), (0, u "java/lang/Object")] 2

/-- java/io/Serializable -/
def k4 : Class := { plain "java/io/Serializable" (some 0) with
  accessFlags := 1537
  interfaces := #[]
  cf := some (fileOf pool4 1 #[] #[] 1537 3 #[] #[])
  fields := #[]
  methods := #[]
  instanceTypes := #[]
  staticTypes := #[]
  resolved := Array.replicate 7 none
  statics := none }

def pool5 : Array CpInfo := pool [(2, .class_ 4), (1, u "java/lang/Enum"), (0, u "name"), (0, u "Ljava/lang/String;"), (2, u "ordinal"), (0, u "I"), (1, .class_ 14), (1, u "java/lang/Object"), (4, u "hash"), (86, .class_ 108), (1, u "java/lang/Enum$EnumDesc"), (2, .class_ 112), (0, u "java/lang/constant/Constable"), (0, .class_ 114), (0, u "java/lang/Comparable"), (0, .class_ 116), (0, u "java/io/Serializable")] 87

/-- java/lang/Enum -/
def k5 : Class := { plain "java/lang/Enum" (some 0) with
  accessFlags := 1057
  interfaces := #[2, 3, 4]
  cf := some (fileOf pool5 2 #[.nestMembers #[106]] #[] 1057 12 #[111, 113, 115] #[{ accessFlags := 18, nameIndex := 5, descriptorIndex := 6, attributes := #[] }, { accessFlags := 18, nameIndex := 9, descriptorIndex := 10, attributes := #[] }, { accessFlags := 2, nameIndex := 19, descriptorIndex := 10, attributes := #[] }])
  fields := #[{ name := "name", type := (.object "java/lang/String"), accessFlags := 18, slot := 0, constantValue := 0 }, { name := "ordinal", type := .int, accessFlags := 18, slot := 1, constantValue := 0 }, { name := "hash", type := .int, accessFlags := 2, slot := 2, constantValue := 0 }]
  methods := #[]
  instanceTypes := #[(.object "java/lang/String"), .int, .int]
  staticTypes := #[]
  resolved := Array.replicate 204 none
  statics := none }

def pool6 : Array CpInfo := pool [(1, .class_ 2), (0, u "com/example/decider/decider/library/xpath/Axis"), (0, .fieldref 1 4), (0, .nameAndType 5 6), (0, u "SELF"), (0, u "Lcom/example/decider/decider/library/xpath/Axis;"), (2, u "CHILD"), (0, .fieldref 1 11), (0, .nameAndType 12 6), (0, u "PARENT"), (2, u "DESCENDANT"), (2, u "DESCENDANT_OR_SELF"), (2, u "ANCESTOR"), (2, u "ANCESTOR_OR_SELF"), (2, u "FOLLOWING_SIBLING"), (2, u "PRECEDING_SIBLING"), (2, u "FOLLOWING"), (2, u "PRECEDING"), (2, u "$VALUES"), (0, u "[Lcom/example/decider/decider/library/xpath/Axis;"), (6, .class_ 49), (1, u "java/lang/Enum"), (8, u "xpathName"), (0, u "Ljava/lang/String;"), (68, u "leadsToOneNode"), (0, u "()Z")] 6

def k6c0 : Code := { maxStack := 2, maxLocals := 1, code := prog_61_method_6_code, exceptionTable := #[], attributes := #[] }
def k6m0 : Method := { name := "leadsToOneNode", desc := "()Z", sig := { parameters := [], returnType := some .boolean }, accessFlags := 1, code := some k6c0 }
/-- com/example/decider/decider/library/xpath/Axis -/
def k6 : Class := { plain "com/example/decider/decider/library/xpath/Axis" (some 5) with
  accessFlags := 16433
  interfaces := #[]
  cf := some (fileOf pool6 1 #[] #[{ accessFlags := 1, nameIndex := 128, descriptorIndex := 129, attributes := #[] }] 16433 47 #[] #[{ accessFlags := 16409, nameIndex := 5, descriptorIndex := 6, attributes := #[] }, { accessFlags := 16409, nameIndex := 9, descriptorIndex := 6, attributes := #[] }, { accessFlags := 16409, nameIndex := 12, descriptorIndex := 6, attributes := #[] }, { accessFlags := 16409, nameIndex := 15, descriptorIndex := 6, attributes := #[] }, { accessFlags := 16409, nameIndex := 18, descriptorIndex := 6, attributes := #[] }, { accessFlags := 16409, nameIndex := 21, descriptorIndex := 6, attributes := #[] }, { accessFlags := 16409, nameIndex := 24, descriptorIndex := 6, attributes := #[] }, { accessFlags := 16409, nameIndex := 27, descriptorIndex := 6, attributes := #[] }, { accessFlags := 16409, nameIndex := 30, descriptorIndex := 6, attributes := #[] }, { accessFlags := 16409, nameIndex := 33, descriptorIndex := 6, attributes := #[] }, { accessFlags := 16409, nameIndex := 36, descriptorIndex := 6, attributes := #[] }, { accessFlags := 18, nameIndex := 58, descriptorIndex := 59, attributes := #[] }, { accessFlags := 4122, nameIndex := 39, descriptorIndex := 40, attributes := #[] }])
  fields := #[{ name := "SELF", type := (.object "com/example/decider/decider/library/xpath/Axis"), accessFlags := 16409, slot := 0, constantValue := 0 }, { name := "CHILD", type := (.object "com/example/decider/decider/library/xpath/Axis"), accessFlags := 16409, slot := 1, constantValue := 0 }, { name := "PARENT", type := (.object "com/example/decider/decider/library/xpath/Axis"), accessFlags := 16409, slot := 2, constantValue := 0 }, { name := "DESCENDANT", type := (.object "com/example/decider/decider/library/xpath/Axis"), accessFlags := 16409, slot := 3, constantValue := 0 }, { name := "DESCENDANT_OR_SELF", type := (.object "com/example/decider/decider/library/xpath/Axis"), accessFlags := 16409, slot := 4, constantValue := 0 }, { name := "ANCESTOR", type := (.object "com/example/decider/decider/library/xpath/Axis"), accessFlags := 16409, slot := 5, constantValue := 0 }, { name := "ANCESTOR_OR_SELF", type := (.object "com/example/decider/decider/library/xpath/Axis"), accessFlags := 16409, slot := 6, constantValue := 0 }, { name := "FOLLOWING_SIBLING", type := (.object "com/example/decider/decider/library/xpath/Axis"), accessFlags := 16409, slot := 7, constantValue := 0 }, { name := "PRECEDING_SIBLING", type := (.object "com/example/decider/decider/library/xpath/Axis"), accessFlags := 16409, slot := 8, constantValue := 0 }, { name := "FOLLOWING", type := (.object "com/example/decider/decider/library/xpath/Axis"), accessFlags := 16409, slot := 9, constantValue := 0 }, { name := "PRECEDING", type := (.object "com/example/decider/decider/library/xpath/Axis"), accessFlags := 16409, slot := 10, constantValue := 0 }, { name := "xpathName", type := (.object "java/lang/String"), accessFlags := 18, slot := 3, constantValue := 0 }, { name := "$VALUES", type := (.array (.object "com/example/decider/decider/library/xpath/Axis")), accessFlags := 4122, slot := 11, constantValue := 0 }]
  methods := #[k6m0]
  instanceTypes := #[(.object "java/lang/String"), .int, .int, (.object "java/lang/String")]
  staticTypes := #[(.object "com/example/decider/decider/library/xpath/Axis"), (.object "com/example/decider/decider/library/xpath/Axis"), (.object "com/example/decider/decider/library/xpath/Axis"), (.object "com/example/decider/decider/library/xpath/Axis"), (.object "com/example/decider/decider/library/xpath/Axis"), (.object "com/example/decider/decider/library/xpath/Axis"), (.object "com/example/decider/decider/library/xpath/Axis"), (.object "com/example/decider/decider/library/xpath/Axis"), (.object "com/example/decider/decider/library/xpath/Axis"), (.object "com/example/decider/decider/library/xpath/Axis"), (.object "com/example/decider/decider/library/xpath/Axis"), (.array (.object "com/example/decider/decider/library/xpath/Axis"))]
  resolved := Array.replicate 136 none
  statics := some 0 }

def pool7 : Array CpInfo := pool [(1, u "java/lang/Cloneable"), (0, .class_ 1), (0, u "java/lang/Object"), (0, .class_ 3)] 3

/-- java/lang/Cloneable -/
def k7 : Class := { plain "java/lang/Cloneable" (some 0) with
  accessFlags := 1537
  interfaces := #[]
  cf := some (fileOf pool7 2 #[] #[] 1537 4 #[] #[])
  fields := #[]
  methods := #[]
  instanceTypes := #[]
  staticTypes := #[]
  resolved := Array.replicate 8 none
  statics := none }

/-- the primitive byte -/
def k8 : Class := { plain "byte" none with kind := .primitive 'B', accessFlags := 0x411 }
/-- [B -/
def k9 : Class := { plain "[B" (some 0) with kind := .array 8 .byte, interfaces := #[7, 4], accessFlags := 1041 }

/-- the primitive int -/
def k10 : Class := { plain "int" none with kind := .primitive 'I', accessFlags := 0x411 }
/-- [I -/
def k11 : Class := { plain "[I" (some 0) with kind := .array 10 .int, interfaces := #[7, 4], accessFlags := 1041 }

def heap : Heap := #[{ cls := 6, slots := #[.ref 1, .ref 2, .ref 3, .ref 4, .ref 5, .ref 6, .ref 7, .ref 8, .ref 9, .ref 10, .ref 11, .null], vm := .statics 6 },
  { cls := 6, slots := #[.null, .int 0, .int 0, .null], vm := .none },
  { cls := 6, slots := #[.null, .int 1, .int 0, .null], vm := .none },
  { cls := 6, slots := #[.null, .int 2, .int 0, .null], vm := .none },
  { cls := 6, slots := #[.null, .int 3, .int 0, .null], vm := .none },
  { cls := 6, slots := #[.null, .int 4, .int 0, .null], vm := .none },
  { cls := 6, slots := #[.null, .int 5, .int 0, .null], vm := .none },
  { cls := 6, slots := #[.null, .int 6, .int 0, .null], vm := .none },
  { cls := 6, slots := #[.null, .int 7, .int 0, .null], vm := .none },
  { cls := 6, slots := #[.null, .int 8, .int 0, .null], vm := .none },
  { cls := 6, slots := #[.null, .int 9, .int 0, .null], vm := .none },
  { cls := 6, slots := #[.null, .int 10, .int 0, .null], vm := .none }]
def classes : Array Class := #[k0, k1, k2, k3, k4, k5, k6, k7, k8, k9, k10, k11]
def interned : List (Array UInt16 × Addr) := []
def slotsUsed : Nat := 56
def theMethod : MethodId := ⟨1, 1⟩
def args0 : Array Value := #[.int 5]
def aboutOver (below : List Frame) : State where
  vm := { classes := classes, interned := interned.toArray }
  heap := heap
  slotsUsed := slotsUsed
  threads := #[{ frames := .invoking theMethod args0 :: below }]
def below0 : List Frame := [.native { method := ⟨0, 0⟩, args := #[] }]
def about1 : State := aboutOver below0
def p0 : Program := .bare "" "" ""
def e0 : Env := launch0.env 0 0 0
theorem w_frames : about1.frames = Frame.invoking theMethod args0 :: below0 := rfl
set_option maxRecDepth 65536 in
theorem w_args : argsFit about1.vm theMethod args0 = true := by decide +kernel
set_option maxRecDepth 65536 in
theorem w_heap : heapFits about1 = true := by decide +kernel
set_option maxRecDepth 65536 in
theorem w_runnable : about1.curStatus? = some .runnable := by decide +kernel
set_option maxRecDepth 65536 in
theorem w_alone : about1.alone = true := by decide +kernel
set_option maxRecDepth 65536 in
theorem w_named : about1.methodNamed? x = some theMethod := by decide +kernel
set_option maxRecDepth 65536 in
theorem w_hears : about1.hears theMethod below0 = true := by decide +kernel
set_option maxRecDepth 65536 in
theorem w_ripe : about1.ripe theMethod args0 below0 = true := by decide +kernel
theorem w_running : about1.status = .running := rfl
set_option maxRecDepth 65536 in
theorem w_room : about1.hasRoom e0.platform room_1 = true :=
  launch0.hasRoom_least _ room_1 (by decide +kernel) (by decide +kernel) (by decide +kernel) (by decide +kernel) (by decide +kernel) (by decide +kernel)
theorem allAtoms_all (ts : List Jvm.Cond) (a : Array Jvm.Value) (st : Jvm.State) : (allAtoms ts).before a st = ts.all (fun c => c.before a st) := by
  induction ts with
  | nil => rfl
  | cons c t ih =>
    show (Jvm.Cond.and c (allAtoms t)).before a st = _
    rw [Jvm.Cond.before_and, ih, List.all_cons]
def words1 : List Jvm.Cond := Jvm.Cond.code x code maxLocals ret :: tables_1
/-- a 'code' word, met by the world's own term for the bytes: nothing is compared byte by byte -/
theorem code_word {y : MethodName} {bytes : ByteArray} {mx : Nat} {rt : Option FieldType} {a : Array Value} {s : State} {m : MethodId} {meth : Method} {c : Code} (h1 : s.methodNamed? y = some m) (h2 : s.vm.method? m = some meth) (h3 : meth.code = some c) (h4 : c.code = bytes)
    (h5 : (c.maxLocals == mx && c.exceptionTable.isEmpty && decide (c.maxStack ≤ mostOperands) && decide (meth.sig.returnType = rt) && !meth.locks && decide (parseMethodDescriptor y.desc = some meth.sig)) = true) : (Jvm.Cond.code y bytes mx rt).before a s = true := by
  simp only [Bool.and_eq_true, beq_iff_eq, Bool.not_eq_true', decide_eq_true_eq] at h5
  obtain ⟨⟨⟨⟨⟨g1, g2⟩, g3⟩, g4⟩, g5⟩, g6⟩ := h5
  simp [Cond.before, Cond.holds, Cond.value, h1, h2, h3, h4, g1, g2, g3, g4, g5, g6]
def isCode : Jvm.Cond → Bool
  | .code _ _ _ _ => true
  | _ => false
theorem all_split {L : List Jvm.Cond} {P : Jvm.Cond → Bool} (h1 : L.all (fun c => isCode c || P c) = true) (h2 : ∀ c ∈ L.filter isCode, P c = true) : L.all P = true := by
  refine List.all_eq_true.mpr fun c hc => ?_
  have h := List.all_eq_true.mp h1 c hc
  rcases Bool.eq_false_or_eq_true (isCode c) with hi | hi
  · exact h2 c (List.mem_filter.mpr ⟨hc, hi⟩)
  · simpa [hi] using h
set_option maxRecDepth 65536 in
theorem w_c0 : (Jvm.Cond.code x code maxLocals ret).before args0 about1 = true := code_word (m := ⟨1, 1⟩) (meth := k1m1) (c := k1c1) (by decide +kernel) rfl rfl rfl (by decide +kernel)
set_option maxRecDepth 65536 in
theorem w_c1 : (Jvm.Cond.code ({ cls := "com/example/decider/decider/library/xpath/AxisLeadsToOneNodePinLaw", name := "pick", desc := "(I)Lcom/example/decider/decider/library/xpath/Axis;" } : Jvm.MethodName) method_3_code (1 : Nat) (Option.some (Jvm.ClassFile.FieldType.object "com/example/decider/decider/library/xpath/Axis"))).before args0 about1 = true := code_word (m := ⟨1, 2⟩) (meth := k1m2) (c := k1c2) (by decide +kernel) rfl rfl rfl (by decide +kernel)
set_option maxRecDepth 65536 in
theorem w_c2 : (Jvm.Cond.code ({ cls := "com/example/decider/decider/library/xpath/Axis", name := "leadsToOneNode", desc := "()Z" } : Jvm.MethodName) prog_61_method_6_code (1 : Nat) (Option.some Jvm.ClassFile.FieldType.boolean)).before args0 about1 = true := code_word (m := ⟨6, 0⟩) (meth := k6m0) (c := k6c0) (by decide +kernel) rfl rfl rfl (by decide +kernel)
def codes1 : List Jvm.Cond := [Jvm.Cond.code x code maxLocals ret, Jvm.Cond.code ({ cls := "com/example/decider/decider/library/xpath/AxisLeadsToOneNodePinLaw", name := "pick", desc := "(I)Lcom/example/decider/decider/library/xpath/Axis;" } : Jvm.MethodName) method_3_code (1 : Nat) (Option.some (Jvm.ClassFile.FieldType.object "com/example/decider/decider/library/xpath/Axis")), Jvm.Cond.code ({ cls := "com/example/decider/decider/library/xpath/Axis", name := "leadsToOneNode", desc := "()Z" } : Jvm.MethodName) prog_61_method_6_code (1 : Nat) (Option.some Jvm.ClassFile.FieldType.boolean)]
set_option maxRecDepth 65536 in
theorem codes_eq : words1.filter isCode = codes1 := rfl
theorem w_codes : ∀ c ∈ words1.filter isCode, c.before args0 about1 = true := by
  rw [codes_eq]
  intro c hc
  simp only [codes1, List.mem_cons, List.not_mem_nil, or_false] at hc
  rcases hc with rfl | rfl | rfl
  · exact w_c0
  · exact w_c1
  · exact w_c2
set_option maxRecDepth 65536 in
theorem w_t1 : (words1.take 24).all (fun c => isCode c || c.before args0 about1) = true := by decide +kernel
set_option maxRecDepth 65536 in
theorem w_t2 : (words1.drop 24).all (fun c => isCode c || c.before args0 about1) = true := by decide +kernel
theorem w_tables : (allAtoms (Jvm.Cond.code x code maxLocals ret :: tables_1)).before args0 about1 = true := by
  rw [allAtoms_all]
  show words1.all (fun c => c.before args0 about1) = true
  refine all_split ?_ w_codes
  rw [← List.take_append_drop 24 words1, List.all_append, w_t1, w_t2]
  rfl
set_option maxRecDepth 65536 in
theorem w_case : (Jvm.Cond.and given_1 narrow_1).before args0 about1 = true := by decide +kernel
theorem w_applies : (headSpec (Jvm.Cond.code x code maxLocals ret :: tables_1) room_1).applies x e0.platform about1 = true :=
  (Spec.applies_iff w_frames).mpr ⟨w_running, w_runnable, w_alone, w_named, w_hears, w_ripe, w_room, w_tables⟩
theorem atStart : AtStart classFile x code maxLocals ret World_1 tables_1 room_1 Calls_1 rest_1 Pre_1 launch0 p0 e0 about1 theMethod args0 below0 :=
  ⟨lists_1, trivial, launch0.admits_env _ _ _, launch0.least_env, fairChoices_fair.cas, fairChoices_fair.clock, w_frames, w_args, w_heap, w_applies, trivial, trivial, w_case⟩
end start1
theorem witness_1 : WitnessClaimed_1 := ⟨start1.p0, start1.e0, start1.about1, start1.theMethod, start1.args0, start1.below0, start1.atStart⟩
end Jvm.Pilot.@@N@@
