import JvmDerived
import JvmDerived.Pilot.@@N@@Statement
import JvmDerived.Pilot.@@N@@Code
set_option linter.unusedVariables false
set_option linter.unusedSimpArgs false
namespace Jvm.Pilot.@@N@@
open Jvm Jvm.ClassFile Sem Op Lib Jvm.Free Jvm.Stand Jvm.LawKit Jvm.RoadKit Bundle Jvm.Pilot.@@N@@.Jvm.D
theorem own_go {tb : Tables} {e : Env} {below : List Frame} {A B : State} {P : State → Outcome → Prop} (h : ∀ t, Steps tb e below B t → Steps tb e below A t) (k : ∃ s₂ o, Steps tb e below B s₂ ∧ P s₂ o) : ∃ s₂ o, Steps tb e below A s₂ ∧ P s₂ o := by
  obtain ⟨s₂, o, h1, h2⟩ := k; exact ⟨s₂, o, h _ h1, h2⟩
theorem d1_0 : decode method_3_code 0 = .ok (.iload_n 0, 1) := by decide +kernel
theorem d1_1 : decode method_3_code 1 = .ok (.ifCond .ne 7, 3) := by decide +kernel
theorem d1_4 : decode method_3_code 4 = .ok (.getstatic 20, 3) := by decide +kernel
theorem d1_7 : decode method_3_code 7 = .ok (.areturn, 1) := by decide +kernel
theorem pn_0 : plainName "com/example/portunus/portunus/model/AttributeTypeIsScalarPinLaw" = true := by first | (simp [plainName, overriddenIn]; done) | decide +kernel
theorem d1_8 : decode method_3_code 8 = .ok (.iload_n 0, 1) := by decide +kernel
theorem d1_9 : decode method_3_code 9 = .ok (.iconst 1, 1) := by decide +kernel
theorem d1_10 : decode method_3_code 10 = .ok (.if_icmp .ne 7, 3) := by decide +kernel
theorem d1_13 : decode method_3_code 13 = .ok (.getstatic 24, 3) := by decide +kernel
theorem d1_16 : decode method_3_code 16 = .ok (.areturn, 1) := by decide +kernel
theorem d1_17 : decode method_3_code 17 = .ok (.iload_n 0, 1) := by decide +kernel
theorem d1_18 : decode method_3_code 18 = .ok (.iconst 2, 1) := by decide +kernel
theorem d1_19 : decode method_3_code 19 = .ok (.if_icmp .ne 7, 3) := by decide +kernel
theorem d1_22 : decode method_3_code 22 = .ok (.getstatic 27, 3) := by decide +kernel
theorem d1_25 : decode method_3_code 25 = .ok (.areturn, 1) := by decide +kernel
theorem d1_26 : decode method_3_code 26 = .ok (.iload_n 0, 1) := by decide +kernel
theorem d1_27 : decode method_3_code 27 = .ok (.iconst 3, 1) := by decide +kernel
theorem d1_28 : decode method_3_code 28 = .ok (.if_icmp .ne 7, 3) := by decide +kernel
theorem d1_31 : decode method_3_code 31 = .ok (.getstatic 30, 3) := by decide +kernel
theorem d1_34 : decode method_3_code 34 = .ok (.areturn, 1) := by decide +kernel
theorem d1_35 : decode method_3_code 35 = .ok (.iload_n 0, 1) := by decide +kernel
theorem d1_36 : decode method_3_code 36 = .ok (.iconst 4, 1) := by decide +kernel
theorem d1_37 : decode method_3_code 37 = .ok (.if_icmp .ne 7, 3) := by decide +kernel
theorem d1_40 : decode method_3_code 40 = .ok (.getstatic 33, 3) := by decide +kernel
theorem d1_43 : decode method_3_code 43 = .ok (.areturn, 1) := by decide +kernel
theorem d1_44 : decode method_3_code 44 = .ok (.iload_n 0, 1) := by decide +kernel
theorem d1_45 : decode method_3_code 45 = .ok (.iconst 5, 1) := by decide +kernel
theorem d1_46 : decode method_3_code 46 = .ok (.if_icmp .ne 7, 3) := by decide +kernel
theorem d1_49 : decode method_3_code 49 = .ok (.getstatic 36, 3) := by decide +kernel
theorem d1_52 : decode method_3_code 52 = .ok (.areturn, 1) := by decide +kernel
theorem d1_53 : decode method_3_code 53 = .ok (.iload_n 0, 1) := by decide +kernel
theorem d1_54 : decode method_3_code 54 = .ok (.bipush 6, 2) := by decide +kernel
theorem d1_56 : decode method_3_code 56 = .ok (.if_icmp .ne 7, 3) := by decide +kernel
theorem d1_59 : decode method_3_code 59 = .ok (.getstatic 39, 3) := by decide +kernel
theorem d1_62 : decode method_3_code 62 = .ok (.areturn, 1) := by decide +kernel
theorem d1_63 : decode method_3_code 63 = .ok (.iload_n 0, 1) := by decide +kernel
theorem d1_64 : decode method_3_code 64 = .ok (.bipush 7, 2) := by decide +kernel
theorem d1_66 : decode method_3_code 66 = .ok (.if_icmp .ne 7, 3) := by decide +kernel
theorem d1_69 : decode method_3_code 69 = .ok (.getstatic 42, 3) := by decide +kernel
theorem d1_72 : decode method_3_code 72 = .ok (.areturn, 1) := by decide +kernel
theorem d1_73 : decode method_3_code 73 = .ok (.iload_n 0, 1) := by decide +kernel
theorem d1_74 : decode method_3_code 74 = .ok (.bipush 8, 2) := by decide +kernel
theorem d1_76 : decode method_3_code 76 = .ok (.if_icmp .ne 7, 3) := by decide +kernel
theorem d1_79 : decode method_3_code 79 = .ok (.getstatic 45, 3) := by decide +kernel
theorem d1_82 : decode method_3_code 82 = .ok (.areturn, 1) := by decide +kernel
theorem d1_83 : decode method_3_code 83 = .ok (.getstatic 48, 3) := by decide +kernel
theorem d1_86 : decode method_3_code 86 = .ok (.areturn, 1) := by decide +kernel
theorem d2_0 : decode prog_81_method_4_code 0 = .ok (.aload_n 0, 1) := by decide +kernel
theorem d2_1 : decode prog_81_method_4_code 1 = .ok (.getstatic 3, 3) := by decide +kernel
theorem d2_4 : decode prog_81_method_4_code 4 = .ok (.if_acmp .eq 17, 3) := by decide +kernel
theorem d2_21 : decode prog_81_method_4_code 21 = .ok (.iconst 1, 1) := by decide +kernel
theorem d2_22 : decode prog_81_method_4_code 22 = .ok (.goto 4, 3) := by decide +kernel
theorem d2_26 : decode prog_81_method_4_code 26 = .ok (.ireturn, 1) := by decide +kernel
theorem d2_7 : decode prog_81_method_4_code 7 = .ok (.aload_n 0, 1) := by decide +kernel
theorem d2_8 : decode prog_81_method_4_code 8 = .ok (.getstatic 7, 3) := by decide +kernel
theorem d2_11 : decode prog_81_method_4_code 11 = .ok (.if_acmp .eq 10, 3) := by decide +kernel
theorem d2_14 : decode prog_81_method_4_code 14 = .ok (.aload_n 0, 1) := by decide +kernel
theorem d2_15 : decode prog_81_method_4_code 15 = .ok (.getstatic 10, 3) := by decide +kernel
theorem d2_18 : decode prog_81_method_4_code 18 = .ok (.if_acmp .ne 7, 3) := by decide +kernel
theorem d2_25 : decode prog_81_method_4_code 25 = .ok (.iconst 0, 1) := by decide +kernel
theorem pn_1 : plainName "com/example/portunus/portunus/model/AttributeType" = true := by first | (simp [plainName, overriddenIn]; done) | decide +kernel
theorem pd_0 : parseMethodDescriptor "(I)Lcom/example/portunus/portunus/model/AttributeType;" = some ⟨[.int], some (.object "com/example/portunus/portunus/model/AttributeType")⟩ := by decide +kernel
theorem pd_1 : parseMethodDescriptor "()Z" = some ⟨[], some .boolean⟩ := by decide +kernel
def Qrm1_0 (Z : State) (s_AttributeType_S : Addr) (h0 : Heap) (n0 : Nat) (v : Option Value) (h : Heap) (L : List Loc) : Prop := v = some (.ref s_AttributeType_S) ∧ Fr n0 L ∧ h = h0
theorem efrm1_0 (m : MethodId)  : entryFrame m #[(.int (0 : Int32))] 1 = mkF m 0 #[.val (.int (0 : Int32))] [] := by first | (simp [entryFrame, mkF, argsToLocals, Value.category]; done) | rfl
set_option maxRecDepth 65536 in
set_option maxHeartbeats 40000000 in
theorem rm1_0 (l : Launch) (Z : State) (a0 : Array Value) (hw : ∀ d ∈ tables_1, d.before a0 Z = true) (ws : List Jvm.Cond) (s_AttributeType_S : Addr) (h0 : Heap) (n0 : Nat) (Z0 : n0 ≤ h0.size) (P0 : Sta Z h0 "com/example/portunus/portunus/model/AttributeType" "S" "Lcom/example/portunus/portunus/model/AttributeType;" (.ref s_AttributeType_S)) :
    MetFree l (⟨"com/example/portunus/portunus/model/AttributeTypeIsScalarPinLaw", "pick", "(I)Lcom/example/portunus/portunus/model/AttributeType;"⟩ : MethodName) (head1 (Jvm.Cond.code (⟨"com/example/portunus/portunus/model/AttributeTypeIsScalarPinLaw", "pick", "(I)Lcom/example/portunus/portunus/model/AttributeType;"⟩ : MethodName) method_3_code 1 (some (.object "com/example/portunus/portunus/model/AttributeType")) :: ws) ({ frames := 0, cells := 0, slots := 0, locals := 0 } : Room)) (fun a U => a = #[(.int (0 : Int32))] ∧ Z.Warmed39 U.vm ∧ U.heap = h0) (fun _ _ _ _ _ => True) (fun _ U o U' => ∃ v L, o = .returned v ∧ Qrm1_0 Z s_AttributeType_S h0 n0 v U'.heap L ∧ FrameEnd U o U' L ({ frames := 0, cells := 0, slots := 0, locals := 0 } : Room).cells ({ frames := 0, cells := 0, slots := 0, locals := 0 } : Room).slots) := by
  refine MetFree.of_bodySF (plainFor_of_name pn_0) hisR ?_
  intro p e s m args below meth c s₁ Bd hml0 hP hK
  obtain ⟨rfl, hZ, hh⟩ := hP
  have hx := Bd.exec
  have hby := Bd.bytes
  have hml : c.maxLocals = 1 := hml0
  have hown : s.vm.findClass "com/example/portunus/portunus/model/AttributeTypeIsScalarPinLaw" = some m.cls := findClass_of_methodNamed Bd.named
  have hnm := (name_of_methodNamed Bd.named Bd.method).1
  have X0 : Stand p l e ({ frames := 0, cells := 0, slots := 0, locals := 0 } : Room) s m #[(.int (0 : Int32))] below meth c s₁ [] 0 0 := Stand.of_body Bd
  have e0 : s₁.heap = h0 := by rw [← hh, Bd.state]; rfl
  have N0 := Fr.nil n0
  have K0 : Keep h0 h0 [] := Keep.refl h0 _
  refine own_go (B := s₁.setTop (mkF m 0 #[.val (.int (0 : Int32))] [])) (fun t k => castTop (efrm1_0 m ) k) ?_
  refine own_go (A := s₁.setTop (mkF m 0 #[.val (.int (0 : Int32))] [])) (B := s₁.setTop (mkF m 4 #[.val (.int (0 : Int32))] [])) (fun t k => ?_) ?_
  · show Steps p.tables e below (s₁.setTop (mkF m 0 #[.val (.int (0 : Int32))] [])) _
    refine XS.iloadN X0.here hx rfl (hb hby d1_0) rfl ?_
    show Steps p.tables e below (s₁.setTop (mkF m 1 #[.val (.int (0 : Int32))] [(.int (0 : Int32))])) _
    refine XS.ifNo X0.here hx rfl (hb hby d1_1) rfl ((if0 _ _).trans (teq (rfl : (0 : Int32) = (0 : Int32))).2) ?_
    exact k
  obtain ⟨T2, X2, e2, st2⟩ := getS2 X0 hx hZ hown (host := "") (Or.inl (hw _ (List.mem_of_getElem? (i := 5) rfl))) Via.refl e0 P0 (g := (mkF m 4 #[.val (.int (0 : Int32))] [])) rfl (hb hby d1_4)
  refine own_go st2 ?_
  obtain ⟨fs, hr, hrun, hended, hW, hsame⟩ := X2.leave (v := some (.ref s_AttributeType_S)) (fun h => by rw [Bd.returns] at h; cases h)
  refine ⟨_, _, ?_, hrun, hended, _, _, rfl, ?_, ⟨_, rfl⟩, hW, hsame.mono (by decide) (by decide)⟩
  · show Steps p.tables e below (T2.setTop (mkF m 7 #[.val (.int (0 : Int32))] [(.ref s_AttributeType_S)])) _
    exact retOut X2 hx Bd.returns rfl (Or.inr (Or.inr (Or.inr (Or.inr ⟨rfl, rfl, rfl⟩)))) (hb hby d1_7) hr
  · show Qrm1_0 Z s_AttributeType_S h0 n0 _ T2.heap _
    rw [e2]
    exact ⟨rfl, N0, rfl⟩
def Qrm1_1 (Z : State) (s_AttributeType_N : Addr) (h0 : Heap) (n0 : Nat) (v : Option Value) (h : Heap) (L : List Loc) : Prop := v = some (.ref s_AttributeType_N) ∧ Fr n0 L ∧ h = h0
theorem efrm1_1 (m : MethodId)  : entryFrame m #[(.int (1 : Int32))] 1 = mkF m 0 #[.val (.int (1 : Int32))] [] := by first | (simp [entryFrame, mkF, argsToLocals, Value.category]; done) | rfl
set_option maxRecDepth 65536 in
set_option maxHeartbeats 40000000 in
theorem rm1_1 (l : Launch) (Z : State) (a0 : Array Value) (hw : ∀ d ∈ tables_1, d.before a0 Z = true) (ws : List Jvm.Cond) (s_AttributeType_N : Addr) (h0 : Heap) (n0 : Nat) (Z0 : n0 ≤ h0.size) (P0 : Sta Z h0 "com/example/portunus/portunus/model/AttributeType" "N" "Lcom/example/portunus/portunus/model/AttributeType;" (.ref s_AttributeType_N)) :
    MetFree l (⟨"com/example/portunus/portunus/model/AttributeTypeIsScalarPinLaw", "pick", "(I)Lcom/example/portunus/portunus/model/AttributeType;"⟩ : MethodName) (head1 (Jvm.Cond.code (⟨"com/example/portunus/portunus/model/AttributeTypeIsScalarPinLaw", "pick", "(I)Lcom/example/portunus/portunus/model/AttributeType;"⟩ : MethodName) method_3_code 1 (some (.object "com/example/portunus/portunus/model/AttributeType")) :: ws) ({ frames := 0, cells := 0, slots := 0, locals := 0 } : Room)) (fun a U => a = #[(.int (1 : Int32))] ∧ Z.Warmed39 U.vm ∧ U.heap = h0) (fun _ _ _ _ _ => True) (fun _ U o U' => ∃ v L, o = .returned v ∧ Qrm1_1 Z s_AttributeType_N h0 n0 v U'.heap L ∧ FrameEnd U o U' L ({ frames := 0, cells := 0, slots := 0, locals := 0 } : Room).cells ({ frames := 0, cells := 0, slots := 0, locals := 0 } : Room).slots) := by
  refine MetFree.of_bodySF (plainFor_of_name pn_0) hisR ?_
  intro p e s m args below meth c s₁ Bd hml0 hP hK
  obtain ⟨rfl, hZ, hh⟩ := hP
  have hx := Bd.exec
  have hby := Bd.bytes
  have hml : c.maxLocals = 1 := hml0
  have hown : s.vm.findClass "com/example/portunus/portunus/model/AttributeTypeIsScalarPinLaw" = some m.cls := findClass_of_methodNamed Bd.named
  have hnm := (name_of_methodNamed Bd.named Bd.method).1
  have X0 : Stand p l e ({ frames := 0, cells := 0, slots := 0, locals := 0 } : Room) s m #[(.int (1 : Int32))] below meth c s₁ [] 0 0 := Stand.of_body Bd
  have e0 : s₁.heap = h0 := by rw [← hh, Bd.state]; rfl
  have N0 := Fr.nil n0
  have K0 : Keep h0 h0 [] := Keep.refl h0 _
  refine own_go (B := s₁.setTop (mkF m 0 #[.val (.int (1 : Int32))] [])) (fun t k => castTop (efrm1_1 m ) k) ?_
  refine own_go (A := s₁.setTop (mkF m 0 #[.val (.int (1 : Int32))] [])) (B := s₁.setTop (mkF m 13 #[.val (.int (1 : Int32))] [])) (fun t k => ?_) ?_
  · show Steps p.tables e below (s₁.setTop (mkF m 0 #[.val (.int (1 : Int32))] [])) _
    refine XS.iloadN X0.here hx rfl (hb hby d1_0) rfl ?_
    show Steps p.tables e below (s₁.setTop (mkF m 1 #[.val (.int (1 : Int32))] [(.int (1 : Int32))])) _
    refine XS.ifYes X0.here hx rfl (pc0 := 1) (pc' := 8) rfl (hb hby d1_1) rfl ((if0 _ _).trans (feq (by decide : ¬ ((1 : Int32) = (0 : Int32)))).2) (by decide) (by decide) ?_
    show Steps p.tables e below (s₁.setTop (mkF m 8 #[.val (.int (1 : Int32))] [])) _
    refine XS.iloadN X0.here hx rfl (hb hby d1_8) rfl ?_
    show Steps p.tables e below (s₁.setTop (mkF m 9 #[.val (.int (1 : Int32))] [(.int (1 : Int32))])) _
    refine XS.iconst X0.here hx rfl (hb hby d1_9) ?_
    show Steps p.tables e below (s₁.setTop (mkF m 10 #[.val (.int (1 : Int32))] [(.int (1 : Int32)), (.int (1 : Int32))])) _
    refine XS.icmpNo X0.here hx rfl (hb hby d1_10) rfl (teq (rfl : (1 : Int32) = (1 : Int32))).2 ?_
    exact k
  obtain ⟨T5, X5, e5, st5⟩ := getS2 X0 hx hZ hown (host := "") (Or.inl (hw _ (List.mem_of_getElem? (i := 20) rfl))) Via.refl e0 P0 (g := (mkF m 13 #[.val (.int (1 : Int32))] [])) rfl (hb hby d1_13)
  refine own_go st5 ?_
  obtain ⟨fs, hr, hrun, hended, hW, hsame⟩ := X5.leave (v := some (.ref s_AttributeType_N)) (fun h => by rw [Bd.returns] at h; cases h)
  refine ⟨_, _, ?_, hrun, hended, _, _, rfl, ?_, ⟨_, rfl⟩, hW, hsame.mono (by decide) (by decide)⟩
  · show Steps p.tables e below (T5.setTop (mkF m 16 #[.val (.int (1 : Int32))] [(.ref s_AttributeType_N)])) _
    exact retOut X5 hx Bd.returns rfl (Or.inr (Or.inr (Or.inr (Or.inr ⟨rfl, rfl, rfl⟩)))) (hb hby d1_16) hr
  · show Qrm1_1 Z s_AttributeType_N h0 n0 _ T5.heap _
    rw [e5]
    exact ⟨rfl, N0, rfl⟩
def Qrm1_2 (Z : State) (s_AttributeType_B : Addr) (h0 : Heap) (n0 : Nat) (v : Option Value) (h : Heap) (L : List Loc) : Prop := v = some (.ref s_AttributeType_B) ∧ Fr n0 L ∧ h = h0
theorem efrm1_2 (m : MethodId)  : entryFrame m #[(.int (2 : Int32))] 1 = mkF m 0 #[.val (.int (2 : Int32))] [] := by first | (simp [entryFrame, mkF, argsToLocals, Value.category]; done) | rfl
set_option maxRecDepth 65536 in
set_option maxHeartbeats 40000000 in
theorem rm1_2 (l : Launch) (Z : State) (a0 : Array Value) (hw : ∀ d ∈ tables_1, d.before a0 Z = true) (ws : List Jvm.Cond) (s_AttributeType_B : Addr) (h0 : Heap) (n0 : Nat) (Z0 : n0 ≤ h0.size) (P0 : Sta Z h0 "com/example/portunus/portunus/model/AttributeType" "B" "Lcom/example/portunus/portunus/model/AttributeType;" (.ref s_AttributeType_B)) :
    MetFree l (⟨"com/example/portunus/portunus/model/AttributeTypeIsScalarPinLaw", "pick", "(I)Lcom/example/portunus/portunus/model/AttributeType;"⟩ : MethodName) (head1 (Jvm.Cond.code (⟨"com/example/portunus/portunus/model/AttributeTypeIsScalarPinLaw", "pick", "(I)Lcom/example/portunus/portunus/model/AttributeType;"⟩ : MethodName) method_3_code 1 (some (.object "com/example/portunus/portunus/model/AttributeType")) :: ws) ({ frames := 0, cells := 0, slots := 0, locals := 0 } : Room)) (fun a U => a = #[(.int (2 : Int32))] ∧ Z.Warmed39 U.vm ∧ U.heap = h0) (fun _ _ _ _ _ => True) (fun _ U o U' => ∃ v L, o = .returned v ∧ Qrm1_2 Z s_AttributeType_B h0 n0 v U'.heap L ∧ FrameEnd U o U' L ({ frames := 0, cells := 0, slots := 0, locals := 0 } : Room).cells ({ frames := 0, cells := 0, slots := 0, locals := 0 } : Room).slots) := by
  refine MetFree.of_bodySF (plainFor_of_name pn_0) hisR ?_
  intro p e s m args below meth c s₁ Bd hml0 hP hK
  obtain ⟨rfl, hZ, hh⟩ := hP
  have hx := Bd.exec
  have hby := Bd.bytes
  have hml : c.maxLocals = 1 := hml0
  have hown : s.vm.findClass "com/example/portunus/portunus/model/AttributeTypeIsScalarPinLaw" = some m.cls := findClass_of_methodNamed Bd.named
  have hnm := (name_of_methodNamed Bd.named Bd.method).1
  have X0 : Stand p l e ({ frames := 0, cells := 0, slots := 0, locals := 0 } : Room) s m #[(.int (2 : Int32))] below meth c s₁ [] 0 0 := Stand.of_body Bd
  have e0 : s₁.heap = h0 := by rw [← hh, Bd.state]; rfl
  have N0 := Fr.nil n0
  have K0 : Keep h0 h0 [] := Keep.refl h0 _
  refine own_go (B := s₁.setTop (mkF m 0 #[.val (.int (2 : Int32))] [])) (fun t k => castTop (efrm1_2 m ) k) ?_
  refine own_go (A := s₁.setTop (mkF m 0 #[.val (.int (2 : Int32))] [])) (B := s₁.setTop (mkF m 22 #[.val (.int (2 : Int32))] [])) (fun t k => ?_) ?_
  · show Steps p.tables e below (s₁.setTop (mkF m 0 #[.val (.int (2 : Int32))] [])) _
    refine XS.iloadN X0.here hx rfl (hb hby d1_0) rfl ?_
    show Steps p.tables e below (s₁.setTop (mkF m 1 #[.val (.int (2 : Int32))] [(.int (2 : Int32))])) _
    refine XS.ifYes X0.here hx rfl (pc0 := 1) (pc' := 8) rfl (hb hby d1_1) rfl ((if0 _ _).trans (feq (by decide : ¬ ((2 : Int32) = (0 : Int32)))).2) (by decide) (by decide) ?_
    show Steps p.tables e below (s₁.setTop (mkF m 8 #[.val (.int (2 : Int32))] [])) _
    refine XS.iloadN X0.here hx rfl (hb hby d1_8) rfl ?_
    show Steps p.tables e below (s₁.setTop (mkF m 9 #[.val (.int (2 : Int32))] [(.int (2 : Int32))])) _
    refine XS.iconst X0.here hx rfl (hb hby d1_9) ?_
    show Steps p.tables e below (s₁.setTop (mkF m 10 #[.val (.int (2 : Int32))] [(.int (1 : Int32)), (.int (2 : Int32))])) _
    refine XS.icmpYes X0.here hx rfl (pc0 := 10) (pc' := 17) rfl (hb hby d1_10) rfl (feq (by decide : ¬ ((2 : Int32) = (1 : Int32)))).2 (by decide) (by decide) ?_
    show Steps p.tables e below (s₁.setTop (mkF m 17 #[.val (.int (2 : Int32))] [])) _
    refine XS.iloadN X0.here hx rfl (hb hby d1_17) rfl ?_
    show Steps p.tables e below (s₁.setTop (mkF m 18 #[.val (.int (2 : Int32))] [(.int (2 : Int32))])) _
    refine XS.iconst X0.here hx rfl (hb hby d1_18) ?_
    show Steps p.tables e below (s₁.setTop (mkF m 19 #[.val (.int (2 : Int32))] [(.int (2 : Int32)), (.int (2 : Int32))])) _
    refine XS.icmpNo X0.here hx rfl (hb hby d1_19) rfl (teq (rfl : (2 : Int32) = (2 : Int32))).2 ?_
    exact k
  obtain ⟨T9, X9, e9, st9⟩ := getS2 X0 hx hZ hown (host := "") (Or.inl (hw _ (List.mem_of_getElem? (i := 25) rfl))) Via.refl e0 P0 (g := (mkF m 22 #[.val (.int (2 : Int32))] [])) rfl (hb hby d1_22)
  refine own_go st9 ?_
  obtain ⟨fs, hr, hrun, hended, hW, hsame⟩ := X9.leave (v := some (.ref s_AttributeType_B)) (fun h => by rw [Bd.returns] at h; cases h)
  refine ⟨_, _, ?_, hrun, hended, _, _, rfl, ?_, ⟨_, rfl⟩, hW, hsame.mono (by decide) (by decide)⟩
  · show Steps p.tables e below (T9.setTop (mkF m 25 #[.val (.int (2 : Int32))] [(.ref s_AttributeType_B)])) _
    exact retOut X9 hx Bd.returns rfl (Or.inr (Or.inr (Or.inr (Or.inr ⟨rfl, rfl, rfl⟩)))) (hb hby d1_25) hr
  · show Qrm1_2 Z s_AttributeType_B h0 n0 _ T9.heap _
    rw [e9]
    exact ⟨rfl, N0, rfl⟩
def Qrm1_3 (Z : State) (s_AttributeType_SS : Addr) (h0 : Heap) (n0 : Nat) (v : Option Value) (h : Heap) (L : List Loc) : Prop := v = some (.ref s_AttributeType_SS) ∧ Fr n0 L ∧ h = h0
theorem efrm1_3 (m : MethodId)  : entryFrame m #[(.int (3 : Int32))] 1 = mkF m 0 #[.val (.int (3 : Int32))] [] := by first | (simp [entryFrame, mkF, argsToLocals, Value.category]; done) | rfl
set_option maxRecDepth 65536 in
set_option maxHeartbeats 40000000 in
theorem rm1_3 (l : Launch) (Z : State) (a0 : Array Value) (hw : ∀ d ∈ tables_1, d.before a0 Z = true) (ws : List Jvm.Cond) (s_AttributeType_SS : Addr) (h0 : Heap) (n0 : Nat) (Z0 : n0 ≤ h0.size) (P0 : Sta Z h0 "com/example/portunus/portunus/model/AttributeType" "SS" "Lcom/example/portunus/portunus/model/AttributeType;" (.ref s_AttributeType_SS)) :
    MetFree l (⟨"com/example/portunus/portunus/model/AttributeTypeIsScalarPinLaw", "pick", "(I)Lcom/example/portunus/portunus/model/AttributeType;"⟩ : MethodName) (head1 (Jvm.Cond.code (⟨"com/example/portunus/portunus/model/AttributeTypeIsScalarPinLaw", "pick", "(I)Lcom/example/portunus/portunus/model/AttributeType;"⟩ : MethodName) method_3_code 1 (some (.object "com/example/portunus/portunus/model/AttributeType")) :: ws) ({ frames := 0, cells := 0, slots := 0, locals := 0 } : Room)) (fun a U => a = #[(.int (3 : Int32))] ∧ Z.Warmed39 U.vm ∧ U.heap = h0) (fun _ _ _ _ _ => True) (fun _ U o U' => ∃ v L, o = .returned v ∧ Qrm1_3 Z s_AttributeType_SS h0 n0 v U'.heap L ∧ FrameEnd U o U' L ({ frames := 0, cells := 0, slots := 0, locals := 0 } : Room).cells ({ frames := 0, cells := 0, slots := 0, locals := 0 } : Room).slots) := by
  refine MetFree.of_bodySF (plainFor_of_name pn_0) hisR ?_
  intro p e s m args below meth c s₁ Bd hml0 hP hK
  obtain ⟨rfl, hZ, hh⟩ := hP
  have hx := Bd.exec
  have hby := Bd.bytes
  have hml : c.maxLocals = 1 := hml0
  have hown : s.vm.findClass "com/example/portunus/portunus/model/AttributeTypeIsScalarPinLaw" = some m.cls := findClass_of_methodNamed Bd.named
  have hnm := (name_of_methodNamed Bd.named Bd.method).1
  have X0 : Stand p l e ({ frames := 0, cells := 0, slots := 0, locals := 0 } : Room) s m #[(.int (3 : Int32))] below meth c s₁ [] 0 0 := Stand.of_body Bd
  have e0 : s₁.heap = h0 := by rw [← hh, Bd.state]; rfl
  have N0 := Fr.nil n0
  have K0 : Keep h0 h0 [] := Keep.refl h0 _
  refine own_go (B := s₁.setTop (mkF m 0 #[.val (.int (3 : Int32))] [])) (fun t k => castTop (efrm1_3 m ) k) ?_
  refine own_go (A := s₁.setTop (mkF m 0 #[.val (.int (3 : Int32))] [])) (B := s₁.setTop (mkF m 31 #[.val (.int (3 : Int32))] [])) (fun t k => ?_) ?_
  · show Steps p.tables e below (s₁.setTop (mkF m 0 #[.val (.int (3 : Int32))] [])) _
    refine XS.iloadN X0.here hx rfl (hb hby d1_0) rfl ?_
    show Steps p.tables e below (s₁.setTop (mkF m 1 #[.val (.int (3 : Int32))] [(.int (3 : Int32))])) _
    refine XS.ifYes X0.here hx rfl (pc0 := 1) (pc' := 8) rfl (hb hby d1_1) rfl ((if0 _ _).trans (feq (by decide : ¬ ((3 : Int32) = (0 : Int32)))).2) (by decide) (by decide) ?_
    show Steps p.tables e below (s₁.setTop (mkF m 8 #[.val (.int (3 : Int32))] [])) _
    refine XS.iloadN X0.here hx rfl (hb hby d1_8) rfl ?_
    show Steps p.tables e below (s₁.setTop (mkF m 9 #[.val (.int (3 : Int32))] [(.int (3 : Int32))])) _
    refine XS.iconst X0.here hx rfl (hb hby d1_9) ?_
    show Steps p.tables e below (s₁.setTop (mkF m 10 #[.val (.int (3 : Int32))] [(.int (1 : Int32)), (.int (3 : Int32))])) _
    refine XS.icmpYes X0.here hx rfl (pc0 := 10) (pc' := 17) rfl (hb hby d1_10) rfl (feq (by decide : ¬ ((3 : Int32) = (1 : Int32)))).2 (by decide) (by decide) ?_
    show Steps p.tables e below (s₁.setTop (mkF m 17 #[.val (.int (3 : Int32))] [])) _
    refine XS.iloadN X0.here hx rfl (hb hby d1_17) rfl ?_
    show Steps p.tables e below (s₁.setTop (mkF m 18 #[.val (.int (3 : Int32))] [(.int (3 : Int32))])) _
    refine XS.iconst X0.here hx rfl (hb hby d1_18) ?_
    show Steps p.tables e below (s₁.setTop (mkF m 19 #[.val (.int (3 : Int32))] [(.int (2 : Int32)), (.int (3 : Int32))])) _
    refine XS.icmpYes X0.here hx rfl (pc0 := 19) (pc' := 26) rfl (hb hby d1_19) rfl (feq (by decide : ¬ ((3 : Int32) = (2 : Int32)))).2 (by decide) (by decide) ?_
    show Steps p.tables e below (s₁.setTop (mkF m 26 #[.val (.int (3 : Int32))] [])) _
    refine XS.iloadN X0.here hx rfl (hb hby d1_26) rfl ?_
    show Steps p.tables e below (s₁.setTop (mkF m 27 #[.val (.int (3 : Int32))] [(.int (3 : Int32))])) _
    refine XS.iconst X0.here hx rfl (hb hby d1_27) ?_
    show Steps p.tables e below (s₁.setTop (mkF m 28 #[.val (.int (3 : Int32))] [(.int (3 : Int32)), (.int (3 : Int32))])) _
    refine XS.icmpNo X0.here hx rfl (hb hby d1_28) rfl (teq (rfl : (3 : Int32) = (3 : Int32))).2 ?_
    exact k
  obtain ⟨T14, X14, e14, st14⟩ := getS2 X0 hx hZ hown (host := "") (Or.inl (hw _ (List.mem_of_getElem? (i := 14) rfl))) Via.refl e0 P0 (g := (mkF m 31 #[.val (.int (3 : Int32))] [])) rfl (hb hby d1_31)
  refine own_go st14 ?_
  obtain ⟨fs, hr, hrun, hended, hW, hsame⟩ := X14.leave (v := some (.ref s_AttributeType_SS)) (fun h => by rw [Bd.returns] at h; cases h)
  refine ⟨_, _, ?_, hrun, hended, _, _, rfl, ?_, ⟨_, rfl⟩, hW, hsame.mono (by decide) (by decide)⟩
  · show Steps p.tables e below (T14.setTop (mkF m 34 #[.val (.int (3 : Int32))] [(.ref s_AttributeType_SS)])) _
    exact retOut X14 hx Bd.returns rfl (Or.inr (Or.inr (Or.inr (Or.inr ⟨rfl, rfl, rfl⟩)))) (hb hby d1_34) hr
  · show Qrm1_3 Z s_AttributeType_SS h0 n0 _ T14.heap _
    rw [e14]
    exact ⟨rfl, N0, rfl⟩
def Qrm1_4 (Z : State) (s_AttributeType_NS : Addr) (h0 : Heap) (n0 : Nat) (v : Option Value) (h : Heap) (L : List Loc) : Prop := v = some (.ref s_AttributeType_NS) ∧ Fr n0 L ∧ h = h0
theorem efrm1_4 (m : MethodId)  : entryFrame m #[(.int (4 : Int32))] 1 = mkF m 0 #[.val (.int (4 : Int32))] [] := by first | (simp [entryFrame, mkF, argsToLocals, Value.category]; done) | rfl
set_option maxRecDepth 65536 in
set_option maxHeartbeats 40000000 in
theorem rm1_4 (l : Launch) (Z : State) (a0 : Array Value) (hw : ∀ d ∈ tables_1, d.before a0 Z = true) (ws : List Jvm.Cond) (s_AttributeType_NS : Addr) (h0 : Heap) (n0 : Nat) (Z0 : n0 ≤ h0.size) (P0 : Sta Z h0 "com/example/portunus/portunus/model/AttributeType" "NS" "Lcom/example/portunus/portunus/model/AttributeType;" (.ref s_AttributeType_NS)) :
    MetFree l (⟨"com/example/portunus/portunus/model/AttributeTypeIsScalarPinLaw", "pick", "(I)Lcom/example/portunus/portunus/model/AttributeType;"⟩ : MethodName) (head1 (Jvm.Cond.code (⟨"com/example/portunus/portunus/model/AttributeTypeIsScalarPinLaw", "pick", "(I)Lcom/example/portunus/portunus/model/AttributeType;"⟩ : MethodName) method_3_code 1 (some (.object "com/example/portunus/portunus/model/AttributeType")) :: ws) ({ frames := 0, cells := 0, slots := 0, locals := 0 } : Room)) (fun a U => a = #[(.int (4 : Int32))] ∧ Z.Warmed39 U.vm ∧ U.heap = h0) (fun _ _ _ _ _ => True) (fun _ U o U' => ∃ v L, o = .returned v ∧ Qrm1_4 Z s_AttributeType_NS h0 n0 v U'.heap L ∧ FrameEnd U o U' L ({ frames := 0, cells := 0, slots := 0, locals := 0 } : Room).cells ({ frames := 0, cells := 0, slots := 0, locals := 0 } : Room).slots) := by
  refine MetFree.of_bodySF (plainFor_of_name pn_0) hisR ?_
  intro p e s m args below meth c s₁ Bd hml0 hP hK
  obtain ⟨rfl, hZ, hh⟩ := hP
  have hx := Bd.exec
  have hby := Bd.bytes
  have hml : c.maxLocals = 1 := hml0
  have hown : s.vm.findClass "com/example/portunus/portunus/model/AttributeTypeIsScalarPinLaw" = some m.cls := findClass_of_methodNamed Bd.named
  have hnm := (name_of_methodNamed Bd.named Bd.method).1
  have X0 : Stand p l e ({ frames := 0, cells := 0, slots := 0, locals := 0 } : Room) s m #[(.int (4 : Int32))] below meth c s₁ [] 0 0 := Stand.of_body Bd
  have e0 : s₁.heap = h0 := by rw [← hh, Bd.state]; rfl
  have N0 := Fr.nil n0
  have K0 : Keep h0 h0 [] := Keep.refl h0 _
  refine own_go (B := s₁.setTop (mkF m 0 #[.val (.int (4 : Int32))] [])) (fun t k => castTop (efrm1_4 m ) k) ?_
  refine own_go (A := s₁.setTop (mkF m 0 #[.val (.int (4 : Int32))] [])) (B := s₁.setTop (mkF m 40 #[.val (.int (4 : Int32))] [])) (fun t k => ?_) ?_
  · show Steps p.tables e below (s₁.setTop (mkF m 0 #[.val (.int (4 : Int32))] [])) _
    refine XS.iloadN X0.here hx rfl (hb hby d1_0) rfl ?_
    show Steps p.tables e below (s₁.setTop (mkF m 1 #[.val (.int (4 : Int32))] [(.int (4 : Int32))])) _
    refine XS.ifYes X0.here hx rfl (pc0 := 1) (pc' := 8) rfl (hb hby d1_1) rfl ((if0 _ _).trans (feq (by decide : ¬ ((4 : Int32) = (0 : Int32)))).2) (by decide) (by decide) ?_
    show Steps p.tables e below (s₁.setTop (mkF m 8 #[.val (.int (4 : Int32))] [])) _
    refine XS.iloadN X0.here hx rfl (hb hby d1_8) rfl ?_
    show Steps p.tables e below (s₁.setTop (mkF m 9 #[.val (.int (4 : Int32))] [(.int (4 : Int32))])) _
    refine XS.iconst X0.here hx rfl (hb hby d1_9) ?_
    show Steps p.tables e below (s₁.setTop (mkF m 10 #[.val (.int (4 : Int32))] [(.int (1 : Int32)), (.int (4 : Int32))])) _
    refine XS.icmpYes X0.here hx rfl (pc0 := 10) (pc' := 17) rfl (hb hby d1_10) rfl (feq (by decide : ¬ ((4 : Int32) = (1 : Int32)))).2 (by decide) (by decide) ?_
    show Steps p.tables e below (s₁.setTop (mkF m 17 #[.val (.int (4 : Int32))] [])) _
    refine XS.iloadN X0.here hx rfl (hb hby d1_17) rfl ?_
    show Steps p.tables e below (s₁.setTop (mkF m 18 #[.val (.int (4 : Int32))] [(.int (4 : Int32))])) _
    refine XS.iconst X0.here hx rfl (hb hby d1_18) ?_
    show Steps p.tables e below (s₁.setTop (mkF m 19 #[.val (.int (4 : Int32))] [(.int (2 : Int32)), (.int (4 : Int32))])) _
    refine XS.icmpYes X0.here hx rfl (pc0 := 19) (pc' := 26) rfl (hb hby d1_19) rfl (feq (by decide : ¬ ((4 : Int32) = (2 : Int32)))).2 (by decide) (by decide) ?_
    show Steps p.tables e below (s₁.setTop (mkF m 26 #[.val (.int (4 : Int32))] [])) _
    refine XS.iloadN X0.here hx rfl (hb hby d1_26) rfl ?_
    show Steps p.tables e below (s₁.setTop (mkF m 27 #[.val (.int (4 : Int32))] [(.int (4 : Int32))])) _
    refine XS.iconst X0.here hx rfl (hb hby d1_27) ?_
    show Steps p.tables e below (s₁.setTop (mkF m 28 #[.val (.int (4 : Int32))] [(.int (3 : Int32)), (.int (4 : Int32))])) _
    refine XS.icmpYes X0.here hx rfl (pc0 := 28) (pc' := 35) rfl (hb hby d1_28) rfl (feq (by decide : ¬ ((4 : Int32) = (3 : Int32)))).2 (by decide) (by decide) ?_
    show Steps p.tables e below (s₁.setTop (mkF m 35 #[.val (.int (4 : Int32))] [])) _
    refine XS.iloadN X0.here hx rfl (hb hby d1_35) rfl ?_
    show Steps p.tables e below (s₁.setTop (mkF m 36 #[.val (.int (4 : Int32))] [(.int (4 : Int32))])) _
    refine XS.iconst X0.here hx rfl (hb hby d1_36) ?_
    show Steps p.tables e below (s₁.setTop (mkF m 37 #[.val (.int (4 : Int32))] [(.int (4 : Int32)), (.int (4 : Int32))])) _
    refine XS.icmpNo X0.here hx rfl (hb hby d1_37) rfl (teq (rfl : (4 : Int32) = (4 : Int32))).2 ?_
    exact k
  obtain ⟨T20, X20, e20, st20⟩ := getS2 X0 hx hZ hown (host := "") (Or.inl (hw _ (List.mem_of_getElem? (i := 21) rfl))) Via.refl e0 P0 (g := (mkF m 40 #[.val (.int (4 : Int32))] [])) rfl (hb hby d1_40)
  refine own_go st20 ?_
  obtain ⟨fs, hr, hrun, hended, hW, hsame⟩ := X20.leave (v := some (.ref s_AttributeType_NS)) (fun h => by rw [Bd.returns] at h; cases h)
  refine ⟨_, _, ?_, hrun, hended, _, _, rfl, ?_, ⟨_, rfl⟩, hW, hsame.mono (by decide) (by decide)⟩
  · show Steps p.tables e below (T20.setTop (mkF m 43 #[.val (.int (4 : Int32))] [(.ref s_AttributeType_NS)])) _
    exact retOut X20 hx Bd.returns rfl (Or.inr (Or.inr (Or.inr (Or.inr ⟨rfl, rfl, rfl⟩)))) (hb hby d1_43) hr
  · show Qrm1_4 Z s_AttributeType_NS h0 n0 _ T20.heap _
    rw [e20]
    exact ⟨rfl, N0, rfl⟩
def Qrm1_5 (Z : State) (s_AttributeType_BS : Addr) (h0 : Heap) (n0 : Nat) (v : Option Value) (h : Heap) (L : List Loc) : Prop := v = some (.ref s_AttributeType_BS) ∧ Fr n0 L ∧ h = h0
theorem efrm1_5 (m : MethodId)  : entryFrame m #[(.int (5 : Int32))] 1 = mkF m 0 #[.val (.int (5 : Int32))] [] := by first | (simp [entryFrame, mkF, argsToLocals, Value.category]; done) | rfl
set_option maxRecDepth 65536 in
set_option maxHeartbeats 40000000 in
theorem rm1_5 (l : Launch) (Z : State) (a0 : Array Value) (hw : ∀ d ∈ tables_1, d.before a0 Z = true) (ws : List Jvm.Cond) (s_AttributeType_BS : Addr) (h0 : Heap) (n0 : Nat) (Z0 : n0 ≤ h0.size) (P0 : Sta Z h0 "com/example/portunus/portunus/model/AttributeType" "BS" "Lcom/example/portunus/portunus/model/AttributeType;" (.ref s_AttributeType_BS)) :
    MetFree l (⟨"com/example/portunus/portunus/model/AttributeTypeIsScalarPinLaw", "pick", "(I)Lcom/example/portunus/portunus/model/AttributeType;"⟩ : MethodName) (head1 (Jvm.Cond.code (⟨"com/example/portunus/portunus/model/AttributeTypeIsScalarPinLaw", "pick", "(I)Lcom/example/portunus/portunus/model/AttributeType;"⟩ : MethodName) method_3_code 1 (some (.object "com/example/portunus/portunus/model/AttributeType")) :: ws) ({ frames := 0, cells := 0, slots := 0, locals := 0 } : Room)) (fun a U => a = #[(.int (5 : Int32))] ∧ Z.Warmed39 U.vm ∧ U.heap = h0) (fun _ _ _ _ _ => True) (fun _ U o U' => ∃ v L, o = .returned v ∧ Qrm1_5 Z s_AttributeType_BS h0 n0 v U'.heap L ∧ FrameEnd U o U' L ({ frames := 0, cells := 0, slots := 0, locals := 0 } : Room).cells ({ frames := 0, cells := 0, slots := 0, locals := 0 } : Room).slots) := by
  refine MetFree.of_bodySF (plainFor_of_name pn_0) hisR ?_
  intro p e s m args below meth c s₁ Bd hml0 hP hK
  obtain ⟨rfl, hZ, hh⟩ := hP
  have hx := Bd.exec
  have hby := Bd.bytes
  have hml : c.maxLocals = 1 := hml0
  have hown : s.vm.findClass "com/example/portunus/portunus/model/AttributeTypeIsScalarPinLaw" = some m.cls := findClass_of_methodNamed Bd.named
  have hnm := (name_of_methodNamed Bd.named Bd.method).1
  have X0 : Stand p l e ({ frames := 0, cells := 0, slots := 0, locals := 0 } : Room) s m #[(.int (5 : Int32))] below meth c s₁ [] 0 0 := Stand.of_body Bd
  have e0 : s₁.heap = h0 := by rw [← hh, Bd.state]; rfl
  have N0 := Fr.nil n0
  have K0 : Keep h0 h0 [] := Keep.refl h0 _
  refine own_go (B := s₁.setTop (mkF m 0 #[.val (.int (5 : Int32))] [])) (fun t k => castTop (efrm1_5 m ) k) ?_
  refine own_go (A := s₁.setTop (mkF m 0 #[.val (.int (5 : Int32))] [])) (B := s₁.setTop (mkF m 49 #[.val (.int (5 : Int32))] [])) (fun t k => ?_) ?_
  · show Steps p.tables e below (s₁.setTop (mkF m 0 #[.val (.int (5 : Int32))] [])) _
    refine XS.iloadN X0.here hx rfl (hb hby d1_0) rfl ?_
    show Steps p.tables e below (s₁.setTop (mkF m 1 #[.val (.int (5 : Int32))] [(.int (5 : Int32))])) _
    refine XS.ifYes X0.here hx rfl (pc0 := 1) (pc' := 8) rfl (hb hby d1_1) rfl ((if0 _ _).trans (feq (by decide : ¬ ((5 : Int32) = (0 : Int32)))).2) (by decide) (by decide) ?_
    show Steps p.tables e below (s₁.setTop (mkF m 8 #[.val (.int (5 : Int32))] [])) _
    refine XS.iloadN X0.here hx rfl (hb hby d1_8) rfl ?_
    show Steps p.tables e below (s₁.setTop (mkF m 9 #[.val (.int (5 : Int32))] [(.int (5 : Int32))])) _
    refine XS.iconst X0.here hx rfl (hb hby d1_9) ?_
    show Steps p.tables e below (s₁.setTop (mkF m 10 #[.val (.int (5 : Int32))] [(.int (1 : Int32)), (.int (5 : Int32))])) _
    refine XS.icmpYes X0.here hx rfl (pc0 := 10) (pc' := 17) rfl (hb hby d1_10) rfl (feq (by decide : ¬ ((5 : Int32) = (1 : Int32)))).2 (by decide) (by decide) ?_
    show Steps p.tables e below (s₁.setTop (mkF m 17 #[.val (.int (5 : Int32))] [])) _
    refine XS.iloadN X0.here hx rfl (hb hby d1_17) rfl ?_
    show Steps p.tables e below (s₁.setTop (mkF m 18 #[.val (.int (5 : Int32))] [(.int (5 : Int32))])) _
    refine XS.iconst X0.here hx rfl (hb hby d1_18) ?_
    show Steps p.tables e below (s₁.setTop (mkF m 19 #[.val (.int (5 : Int32))] [(.int (2 : Int32)), (.int (5 : Int32))])) _
    refine XS.icmpYes X0.here hx rfl (pc0 := 19) (pc' := 26) rfl (hb hby d1_19) rfl (feq (by decide : ¬ ((5 : Int32) = (2 : Int32)))).2 (by decide) (by decide) ?_
    show Steps p.tables e below (s₁.setTop (mkF m 26 #[.val (.int (5 : Int32))] [])) _
    refine XS.iloadN X0.here hx rfl (hb hby d1_26) rfl ?_
    show Steps p.tables e below (s₁.setTop (mkF m 27 #[.val (.int (5 : Int32))] [(.int (5 : Int32))])) _
    refine XS.iconst X0.here hx rfl (hb hby d1_27) ?_
    show Steps p.tables e below (s₁.setTop (mkF m 28 #[.val (.int (5 : Int32))] [(.int (3 : Int32)), (.int (5 : Int32))])) _
    refine XS.icmpYes X0.here hx rfl (pc0 := 28) (pc' := 35) rfl (hb hby d1_28) rfl (feq (by decide : ¬ ((5 : Int32) = (3 : Int32)))).2 (by decide) (by decide) ?_
    show Steps p.tables e below (s₁.setTop (mkF m 35 #[.val (.int (5 : Int32))] [])) _
    refine XS.iloadN X0.here hx rfl (hb hby d1_35) rfl ?_
    show Steps p.tables e below (s₁.setTop (mkF m 36 #[.val (.int (5 : Int32))] [(.int (5 : Int32))])) _
    refine XS.iconst X0.here hx rfl (hb hby d1_36) ?_
    show Steps p.tables e below (s₁.setTop (mkF m 37 #[.val (.int (5 : Int32))] [(.int (4 : Int32)), (.int (5 : Int32))])) _
    refine XS.icmpYes X0.here hx rfl (pc0 := 37) (pc' := 44) rfl (hb hby d1_37) rfl (feq (by decide : ¬ ((5 : Int32) = (4 : Int32)))).2 (by decide) (by decide) ?_
    show Steps p.tables e below (s₁.setTop (mkF m 44 #[.val (.int (5 : Int32))] [])) _
    refine XS.iloadN X0.here hx rfl (hb hby d1_44) rfl ?_
    show Steps p.tables e below (s₁.setTop (mkF m 45 #[.val (.int (5 : Int32))] [(.int (5 : Int32))])) _
    refine XS.iconst X0.here hx rfl (hb hby d1_45) ?_
    show Steps p.tables e below (s₁.setTop (mkF m 46 #[.val (.int (5 : Int32))] [(.int (5 : Int32)), (.int (5 : Int32))])) _
    refine XS.icmpNo X0.here hx rfl (hb hby d1_46) rfl (teq (rfl : (5 : Int32) = (5 : Int32))).2 ?_
    exact k
  obtain ⟨T27, X27, e27, st27⟩ := getS2 X0 hx hZ hown (host := "") (Or.inl (hw _ (List.mem_of_getElem? (i := 30) rfl))) Via.refl e0 P0 (g := (mkF m 49 #[.val (.int (5 : Int32))] [])) rfl (hb hby d1_49)
  refine own_go st27 ?_
  obtain ⟨fs, hr, hrun, hended, hW, hsame⟩ := X27.leave (v := some (.ref s_AttributeType_BS)) (fun h => by rw [Bd.returns] at h; cases h)
  refine ⟨_, _, ?_, hrun, hended, _, _, rfl, ?_, ⟨_, rfl⟩, hW, hsame.mono (by decide) (by decide)⟩
  · show Steps p.tables e below (T27.setTop (mkF m 52 #[.val (.int (5 : Int32))] [(.ref s_AttributeType_BS)])) _
    exact retOut X27 hx Bd.returns rfl (Or.inr (Or.inr (Or.inr (Or.inr ⟨rfl, rfl, rfl⟩)))) (hb hby d1_52) hr
  · show Qrm1_5 Z s_AttributeType_BS h0 n0 _ T27.heap _
    rw [e27]
    exact ⟨rfl, N0, rfl⟩
def Qrm1_6 (Z : State) (s_AttributeType_M : Addr) (h0 : Heap) (n0 : Nat) (v : Option Value) (h : Heap) (L : List Loc) : Prop := v = some (.ref s_AttributeType_M) ∧ Fr n0 L ∧ h = h0
theorem efrm1_6 (m : MethodId)  : entryFrame m #[(.int (6 : Int32))] 1 = mkF m 0 #[.val (.int (6 : Int32))] [] := by first | (simp [entryFrame, mkF, argsToLocals, Value.category]; done) | rfl
set_option maxRecDepth 65536 in
set_option maxHeartbeats 40000000 in
theorem rm1_6 (l : Launch) (Z : State) (a0 : Array Value) (hw : ∀ d ∈ tables_1, d.before a0 Z = true) (ws : List Jvm.Cond) (s_AttributeType_M : Addr) (h0 : Heap) (n0 : Nat) (Z0 : n0 ≤ h0.size) (P0 : Sta Z h0 "com/example/portunus/portunus/model/AttributeType" "M" "Lcom/example/portunus/portunus/model/AttributeType;" (.ref s_AttributeType_M)) :
    MetFree l (⟨"com/example/portunus/portunus/model/AttributeTypeIsScalarPinLaw", "pick", "(I)Lcom/example/portunus/portunus/model/AttributeType;"⟩ : MethodName) (head1 (Jvm.Cond.code (⟨"com/example/portunus/portunus/model/AttributeTypeIsScalarPinLaw", "pick", "(I)Lcom/example/portunus/portunus/model/AttributeType;"⟩ : MethodName) method_3_code 1 (some (.object "com/example/portunus/portunus/model/AttributeType")) :: ws) ({ frames := 0, cells := 0, slots := 0, locals := 0 } : Room)) (fun a U => a = #[(.int (6 : Int32))] ∧ Z.Warmed39 U.vm ∧ U.heap = h0) (fun _ _ _ _ _ => True) (fun _ U o U' => ∃ v L, o = .returned v ∧ Qrm1_6 Z s_AttributeType_M h0 n0 v U'.heap L ∧ FrameEnd U o U' L ({ frames := 0, cells := 0, slots := 0, locals := 0 } : Room).cells ({ frames := 0, cells := 0, slots := 0, locals := 0 } : Room).slots) := by
  refine MetFree.of_bodySF (plainFor_of_name pn_0) hisR ?_
  intro p e s m args below meth c s₁ Bd hml0 hP hK
  obtain ⟨rfl, hZ, hh⟩ := hP
  have hx := Bd.exec
  have hby := Bd.bytes
  have hml : c.maxLocals = 1 := hml0
  have hown : s.vm.findClass "com/example/portunus/portunus/model/AttributeTypeIsScalarPinLaw" = some m.cls := findClass_of_methodNamed Bd.named
  have hnm := (name_of_methodNamed Bd.named Bd.method).1
  have X0 : Stand p l e ({ frames := 0, cells := 0, slots := 0, locals := 0 } : Room) s m #[(.int (6 : Int32))] below meth c s₁ [] 0 0 := Stand.of_body Bd
  have e0 : s₁.heap = h0 := by rw [← hh, Bd.state]; rfl
  have N0 := Fr.nil n0
  have K0 : Keep h0 h0 [] := Keep.refl h0 _
  refine own_go (B := s₁.setTop (mkF m 0 #[.val (.int (6 : Int32))] [])) (fun t k => castTop (efrm1_6 m ) k) ?_
  refine own_go (A := s₁.setTop (mkF m 0 #[.val (.int (6 : Int32))] [])) (B := s₁.setTop (mkF m 59 #[.val (.int (6 : Int32))] [])) (fun t k => ?_) ?_
  · show Steps p.tables e below (s₁.setTop (mkF m 0 #[.val (.int (6 : Int32))] [])) _
    refine XS.iloadN X0.here hx rfl (hb hby d1_0) rfl ?_
    show Steps p.tables e below (s₁.setTop (mkF m 1 #[.val (.int (6 : Int32))] [(.int (6 : Int32))])) _
    refine XS.ifYes X0.here hx rfl (pc0 := 1) (pc' := 8) rfl (hb hby d1_1) rfl ((if0 _ _).trans (feq (by decide : ¬ ((6 : Int32) = (0 : Int32)))).2) (by decide) (by decide) ?_
    show Steps p.tables e below (s₁.setTop (mkF m 8 #[.val (.int (6 : Int32))] [])) _
    refine XS.iloadN X0.here hx rfl (hb hby d1_8) rfl ?_
    show Steps p.tables e below (s₁.setTop (mkF m 9 #[.val (.int (6 : Int32))] [(.int (6 : Int32))])) _
    refine XS.iconst X0.here hx rfl (hb hby d1_9) ?_
    show Steps p.tables e below (s₁.setTop (mkF m 10 #[.val (.int (6 : Int32))] [(.int (1 : Int32)), (.int (6 : Int32))])) _
    refine XS.icmpYes X0.here hx rfl (pc0 := 10) (pc' := 17) rfl (hb hby d1_10) rfl (feq (by decide : ¬ ((6 : Int32) = (1 : Int32)))).2 (by decide) (by decide) ?_
    show Steps p.tables e below (s₁.setTop (mkF m 17 #[.val (.int (6 : Int32))] [])) _
    refine XS.iloadN X0.here hx rfl (hb hby d1_17) rfl ?_
    show Steps p.tables e below (s₁.setTop (mkF m 18 #[.val (.int (6 : Int32))] [(.int (6 : Int32))])) _
    refine XS.iconst X0.here hx rfl (hb hby d1_18) ?_
    show Steps p.tables e below (s₁.setTop (mkF m 19 #[.val (.int (6 : Int32))] [(.int (2 : Int32)), (.int (6 : Int32))])) _
    refine XS.icmpYes X0.here hx rfl (pc0 := 19) (pc' := 26) rfl (hb hby d1_19) rfl (feq (by decide : ¬ ((6 : Int32) = (2 : Int32)))).2 (by decide) (by decide) ?_
    show Steps p.tables e below (s₁.setTop (mkF m 26 #[.val (.int (6 : Int32))] [])) _
    refine XS.iloadN X0.here hx rfl (hb hby d1_26) rfl ?_
    show Steps p.tables e below (s₁.setTop (mkF m 27 #[.val (.int (6 : Int32))] [(.int (6 : Int32))])) _
    refine XS.iconst X0.here hx rfl (hb hby d1_27) ?_
    show Steps p.tables e below (s₁.setTop (mkF m 28 #[.val (.int (6 : Int32))] [(.int (3 : Int32)), (.int (6 : Int32))])) _
    refine XS.icmpYes X0.here hx rfl (pc0 := 28) (pc' := 35) rfl (hb hby d1_28) rfl (feq (by decide : ¬ ((6 : Int32) = (3 : Int32)))).2 (by decide) (by decide) ?_
    show Steps p.tables e below (s₁.setTop (mkF m 35 #[.val (.int (6 : Int32))] [])) _
    refine XS.iloadN X0.here hx rfl (hb hby d1_35) rfl ?_
    show Steps p.tables e below (s₁.setTop (mkF m 36 #[.val (.int (6 : Int32))] [(.int (6 : Int32))])) _
    refine XS.iconst X0.here hx rfl (hb hby d1_36) ?_
    show Steps p.tables e below (s₁.setTop (mkF m 37 #[.val (.int (6 : Int32))] [(.int (4 : Int32)), (.int (6 : Int32))])) _
    refine XS.icmpYes X0.here hx rfl (pc0 := 37) (pc' := 44) rfl (hb hby d1_37) rfl (feq (by decide : ¬ ((6 : Int32) = (4 : Int32)))).2 (by decide) (by decide) ?_
    show Steps p.tables e below (s₁.setTop (mkF m 44 #[.val (.int (6 : Int32))] [])) _
    refine XS.iloadN X0.here hx rfl (hb hby d1_44) rfl ?_
    show Steps p.tables e below (s₁.setTop (mkF m 45 #[.val (.int (6 : Int32))] [(.int (6 : Int32))])) _
    refine XS.iconst X0.here hx rfl (hb hby d1_45) ?_
    show Steps p.tables e below (s₁.setTop (mkF m 46 #[.val (.int (6 : Int32))] [(.int (5 : Int32)), (.int (6 : Int32))])) _
    refine XS.icmpYes X0.here hx rfl (pc0 := 46) (pc' := 53) rfl (hb hby d1_46) rfl (feq (by decide : ¬ ((6 : Int32) = (5 : Int32)))).2 (by decide) (by decide) ?_
    show Steps p.tables e below (s₁.setTop (mkF m 53 #[.val (.int (6 : Int32))] [])) _
    refine XS.iloadN X0.here hx rfl (hb hby d1_53) rfl ?_
    show Steps p.tables e below (s₁.setTop (mkF m 54 #[.val (.int (6 : Int32))] [(.int (6 : Int32))])) _
    refine XS.bipush X0.here hx rfl (hb hby d1_54) ?_
    show Steps p.tables e below (s₁.setTop (mkF m 56 #[.val (.int (6 : Int32))] [(.int (6 : Int32)), (.int (6 : Int32))])) _
    refine XS.icmpNo X0.here hx rfl (hb hby d1_56) rfl (teq (rfl : (6 : Int32) = (6 : Int32))).2 ?_
    exact k
  obtain ⟨T35, X35, e35, st35⟩ := getS2 X0 hx hZ hown (host := "") (Or.inl (hw _ (List.mem_of_getElem? (i := 32) rfl))) Via.refl e0 P0 (g := (mkF m 59 #[.val (.int (6 : Int32))] [])) rfl (hb hby d1_59)
  refine own_go st35 ?_
  obtain ⟨fs, hr, hrun, hended, hW, hsame⟩ := X35.leave (v := some (.ref s_AttributeType_M)) (fun h => by rw [Bd.returns] at h; cases h)
  refine ⟨_, _, ?_, hrun, hended, _, _, rfl, ?_, ⟨_, rfl⟩, hW, hsame.mono (by decide) (by decide)⟩
  · show Steps p.tables e below (T35.setTop (mkF m 62 #[.val (.int (6 : Int32))] [(.ref s_AttributeType_M)])) _
    exact retOut X35 hx Bd.returns rfl (Or.inr (Or.inr (Or.inr (Or.inr ⟨rfl, rfl, rfl⟩)))) (hb hby d1_62) hr
  · show Qrm1_6 Z s_AttributeType_M h0 n0 _ T35.heap _
    rw [e35]
    exact ⟨rfl, N0, rfl⟩
def Qrm1_7 (Z : State) (s_AttributeType_L : Addr) (h0 : Heap) (n0 : Nat) (v : Option Value) (h : Heap) (L : List Loc) : Prop := v = some (.ref s_AttributeType_L) ∧ Fr n0 L ∧ h = h0
theorem efrm1_7 (m : MethodId)  : entryFrame m #[(.int (7 : Int32))] 1 = mkF m 0 #[.val (.int (7 : Int32))] [] := by first | (simp [entryFrame, mkF, argsToLocals, Value.category]; done) | rfl
set_option maxRecDepth 65536 in
set_option maxHeartbeats 40000000 in
theorem rm1_7 (l : Launch) (Z : State) (a0 : Array Value) (hw : ∀ d ∈ tables_1, d.before a0 Z = true) (ws : List Jvm.Cond) (s_AttributeType_L : Addr) (h0 : Heap) (n0 : Nat) (Z0 : n0 ≤ h0.size) (P0 : Sta Z h0 "com/example/portunus/portunus/model/AttributeType" "L" "Lcom/example/portunus/portunus/model/AttributeType;" (.ref s_AttributeType_L)) :
    MetFree l (⟨"com/example/portunus/portunus/model/AttributeTypeIsScalarPinLaw", "pick", "(I)Lcom/example/portunus/portunus/model/AttributeType;"⟩ : MethodName) (head1 (Jvm.Cond.code (⟨"com/example/portunus/portunus/model/AttributeTypeIsScalarPinLaw", "pick", "(I)Lcom/example/portunus/portunus/model/AttributeType;"⟩ : MethodName) method_3_code 1 (some (.object "com/example/portunus/portunus/model/AttributeType")) :: ws) ({ frames := 0, cells := 0, slots := 0, locals := 0 } : Room)) (fun a U => a = #[(.int (7 : Int32))] ∧ Z.Warmed39 U.vm ∧ U.heap = h0) (fun _ _ _ _ _ => True) (fun _ U o U' => ∃ v L, o = .returned v ∧ Qrm1_7 Z s_AttributeType_L h0 n0 v U'.heap L ∧ FrameEnd U o U' L ({ frames := 0, cells := 0, slots := 0, locals := 0 } : Room).cells ({ frames := 0, cells := 0, slots := 0, locals := 0 } : Room).slots) := by
  refine MetFree.of_bodySF (plainFor_of_name pn_0) hisR ?_
  intro p e s m args below meth c s₁ Bd hml0 hP hK
  obtain ⟨rfl, hZ, hh⟩ := hP
  have hx := Bd.exec
  have hby := Bd.bytes
  have hml : c.maxLocals = 1 := hml0
  have hown : s.vm.findClass "com/example/portunus/portunus/model/AttributeTypeIsScalarPinLaw" = some m.cls := findClass_of_methodNamed Bd.named
  have hnm := (name_of_methodNamed Bd.named Bd.method).1
  have X0 : Stand p l e ({ frames := 0, cells := 0, slots := 0, locals := 0 } : Room) s m #[(.int (7 : Int32))] below meth c s₁ [] 0 0 := Stand.of_body Bd
  have e0 : s₁.heap = h0 := by rw [← hh, Bd.state]; rfl
  have N0 := Fr.nil n0
  have K0 : Keep h0 h0 [] := Keep.refl h0 _
  refine own_go (B := s₁.setTop (mkF m 0 #[.val (.int (7 : Int32))] [])) (fun t k => castTop (efrm1_7 m ) k) ?_
  refine own_go (A := s₁.setTop (mkF m 0 #[.val (.int (7 : Int32))] [])) (B := s₁.setTop (mkF m 69 #[.val (.int (7 : Int32))] [])) (fun t k => ?_) ?_
  · show Steps p.tables e below (s₁.setTop (mkF m 0 #[.val (.int (7 : Int32))] [])) _
    refine XS.iloadN X0.here hx rfl (hb hby d1_0) rfl ?_
    show Steps p.tables e below (s₁.setTop (mkF m 1 #[.val (.int (7 : Int32))] [(.int (7 : Int32))])) _
    refine XS.ifYes X0.here hx rfl (pc0 := 1) (pc' := 8) rfl (hb hby d1_1) rfl ((if0 _ _).trans (feq (by decide : ¬ ((7 : Int32) = (0 : Int32)))).2) (by decide) (by decide) ?_
    show Steps p.tables e below (s₁.setTop (mkF m 8 #[.val (.int (7 : Int32))] [])) _
    refine XS.iloadN X0.here hx rfl (hb hby d1_8) rfl ?_
    show Steps p.tables e below (s₁.setTop (mkF m 9 #[.val (.int (7 : Int32))] [(.int (7 : Int32))])) _
    refine XS.iconst X0.here hx rfl (hb hby d1_9) ?_
    show Steps p.tables e below (s₁.setTop (mkF m 10 #[.val (.int (7 : Int32))] [(.int (1 : Int32)), (.int (7 : Int32))])) _
    refine XS.icmpYes X0.here hx rfl (pc0 := 10) (pc' := 17) rfl (hb hby d1_10) rfl (feq (by decide : ¬ ((7 : Int32) = (1 : Int32)))).2 (by decide) (by decide) ?_
    show Steps p.tables e below (s₁.setTop (mkF m 17 #[.val (.int (7 : Int32))] [])) _
    refine XS.iloadN X0.here hx rfl (hb hby d1_17) rfl ?_
    show Steps p.tables e below (s₁.setTop (mkF m 18 #[.val (.int (7 : Int32))] [(.int (7 : Int32))])) _
    refine XS.iconst X0.here hx rfl (hb hby d1_18) ?_
    show Steps p.tables e below (s₁.setTop (mkF m 19 #[.val (.int (7 : Int32))] [(.int (2 : Int32)), (.int (7 : Int32))])) _
    refine XS.icmpYes X0.here hx rfl (pc0 := 19) (pc' := 26) rfl (hb hby d1_19) rfl (feq (by decide : ¬ ((7 : Int32) = (2 : Int32)))).2 (by decide) (by decide) ?_
    show Steps p.tables e below (s₁.setTop (mkF m 26 #[.val (.int (7 : Int32))] [])) _
    refine XS.iloadN X0.here hx rfl (hb hby d1_26) rfl ?_
    show Steps p.tables e below (s₁.setTop (mkF m 27 #[.val (.int (7 : Int32))] [(.int (7 : Int32))])) _
    refine XS.iconst X0.here hx rfl (hb hby d1_27) ?_
    show Steps p.tables e below (s₁.setTop (mkF m 28 #[.val (.int (7 : Int32))] [(.int (3 : Int32)), (.int (7 : Int32))])) _
    refine XS.icmpYes X0.here hx rfl (pc0 := 28) (pc' := 35) rfl (hb hby d1_28) rfl (feq (by decide : ¬ ((7 : Int32) = (3 : Int32)))).2 (by decide) (by decide) ?_
    show Steps p.tables e below (s₁.setTop (mkF m 35 #[.val (.int (7 : Int32))] [])) _
    refine XS.iloadN X0.here hx rfl (hb hby d1_35) rfl ?_
    show Steps p.tables e below (s₁.setTop (mkF m 36 #[.val (.int (7 : Int32))] [(.int (7 : Int32))])) _
    refine XS.iconst X0.here hx rfl (hb hby d1_36) ?_
    show Steps p.tables e below (s₁.setTop (mkF m 37 #[.val (.int (7 : Int32))] [(.int (4 : Int32)), (.int (7 : Int32))])) _
    refine XS.icmpYes X0.here hx rfl (pc0 := 37) (pc' := 44) rfl (hb hby d1_37) rfl (feq (by decide : ¬ ((7 : Int32) = (4 : Int32)))).2 (by decide) (by decide) ?_
    show Steps p.tables e below (s₁.setTop (mkF m 44 #[.val (.int (7 : Int32))] [])) _
    refine XS.iloadN X0.here hx rfl (hb hby d1_44) rfl ?_
    show Steps p.tables e below (s₁.setTop (mkF m 45 #[.val (.int (7 : Int32))] [(.int (7 : Int32))])) _
    refine XS.iconst X0.here hx rfl (hb hby d1_45) ?_
    show Steps p.tables e below (s₁.setTop (mkF m 46 #[.val (.int (7 : Int32))] [(.int (5 : Int32)), (.int (7 : Int32))])) _
    refine XS.icmpYes X0.here hx rfl (pc0 := 46) (pc' := 53) rfl (hb hby d1_46) rfl (feq (by decide : ¬ ((7 : Int32) = (5 : Int32)))).2 (by decide) (by decide) ?_
    show Steps p.tables e below (s₁.setTop (mkF m 53 #[.val (.int (7 : Int32))] [])) _
    refine XS.iloadN X0.here hx rfl (hb hby d1_53) rfl ?_
    show Steps p.tables e below (s₁.setTop (mkF m 54 #[.val (.int (7 : Int32))] [(.int (7 : Int32))])) _
    refine XS.bipush X0.here hx rfl (hb hby d1_54) ?_
    show Steps p.tables e below (s₁.setTop (mkF m 56 #[.val (.int (7 : Int32))] [(.int (6 : Int32)), (.int (7 : Int32))])) _
    refine XS.icmpYes X0.here hx rfl (pc0 := 56) (pc' := 63) rfl (hb hby d1_56) rfl (feq (by decide : ¬ ((7 : Int32) = (6 : Int32)))).2 (by decide) (by decide) ?_
    show Steps p.tables e below (s₁.setTop (mkF m 63 #[.val (.int (7 : Int32))] [])) _
    refine XS.iloadN X0.here hx rfl (hb hby d1_63) rfl ?_
    show Steps p.tables e below (s₁.setTop (mkF m 64 #[.val (.int (7 : Int32))] [(.int (7 : Int32))])) _
    refine XS.bipush X0.here hx rfl (hb hby d1_64) ?_
    show Steps p.tables e below (s₁.setTop (mkF m 66 #[.val (.int (7 : Int32))] [(.int (7 : Int32)), (.int (7 : Int32))])) _
    refine XS.icmpNo X0.here hx rfl (hb hby d1_66) rfl (teq (rfl : (7 : Int32) = (7 : Int32))).2 ?_
    exact k
  obtain ⟨T44, X44, e44, st44⟩ := getS2 X0 hx hZ hown (host := "") (Or.inl (hw _ (List.mem_of_getElem? (i := 23) rfl))) Via.refl e0 P0 (g := (mkF m 69 #[.val (.int (7 : Int32))] [])) rfl (hb hby d1_69)
  refine own_go st44 ?_
  obtain ⟨fs, hr, hrun, hended, hW, hsame⟩ := X44.leave (v := some (.ref s_AttributeType_L)) (fun h => by rw [Bd.returns] at h; cases h)
  refine ⟨_, _, ?_, hrun, hended, _, _, rfl, ?_, ⟨_, rfl⟩, hW, hsame.mono (by decide) (by decide)⟩
  · show Steps p.tables e below (T44.setTop (mkF m 72 #[.val (.int (7 : Int32))] [(.ref s_AttributeType_L)])) _
    exact retOut X44 hx Bd.returns rfl (Or.inr (Or.inr (Or.inr (Or.inr ⟨rfl, rfl, rfl⟩)))) (hb hby d1_72) hr
  · show Qrm1_7 Z s_AttributeType_L h0 n0 _ T44.heap _
    rw [e44]
    exact ⟨rfl, N0, rfl⟩
def Qrm1_8 (Z : State) (s_AttributeType_BOOL : Addr) (h0 : Heap) (n0 : Nat) (v : Option Value) (h : Heap) (L : List Loc) : Prop := v = some (.ref s_AttributeType_BOOL) ∧ Fr n0 L ∧ h = h0
theorem efrm1_8 (m : MethodId)  : entryFrame m #[(.int (8 : Int32))] 1 = mkF m 0 #[.val (.int (8 : Int32))] [] := by first | (simp [entryFrame, mkF, argsToLocals, Value.category]; done) | rfl
set_option maxRecDepth 65536 in
set_option maxHeartbeats 40000000 in
theorem rm1_8 (l : Launch) (Z : State) (a0 : Array Value) (hw : ∀ d ∈ tables_1, d.before a0 Z = true) (ws : List Jvm.Cond) (s_AttributeType_BOOL : Addr) (h0 : Heap) (n0 : Nat) (Z0 : n0 ≤ h0.size) (P0 : Sta Z h0 "com/example/portunus/portunus/model/AttributeType" "BOOL" "Lcom/example/portunus/portunus/model/AttributeType;" (.ref s_AttributeType_BOOL)) :
    MetFree l (⟨"com/example/portunus/portunus/model/AttributeTypeIsScalarPinLaw", "pick", "(I)Lcom/example/portunus/portunus/model/AttributeType;"⟩ : MethodName) (head1 (Jvm.Cond.code (⟨"com/example/portunus/portunus/model/AttributeTypeIsScalarPinLaw", "pick", "(I)Lcom/example/portunus/portunus/model/AttributeType;"⟩ : MethodName) method_3_code 1 (some (.object "com/example/portunus/portunus/model/AttributeType")) :: ws) ({ frames := 0, cells := 0, slots := 0, locals := 0 } : Room)) (fun a U => a = #[(.int (8 : Int32))] ∧ Z.Warmed39 U.vm ∧ U.heap = h0) (fun _ _ _ _ _ => True) (fun _ U o U' => ∃ v L, o = .returned v ∧ Qrm1_8 Z s_AttributeType_BOOL h0 n0 v U'.heap L ∧ FrameEnd U o U' L ({ frames := 0, cells := 0, slots := 0, locals := 0 } : Room).cells ({ frames := 0, cells := 0, slots := 0, locals := 0 } : Room).slots) := by
  refine MetFree.of_bodySF (plainFor_of_name pn_0) hisR ?_
  intro p e s m args below meth c s₁ Bd hml0 hP hK
  obtain ⟨rfl, hZ, hh⟩ := hP
  have hx := Bd.exec
  have hby := Bd.bytes
  have hml : c.maxLocals = 1 := hml0
  have hown : s.vm.findClass "com/example/portunus/portunus/model/AttributeTypeIsScalarPinLaw" = some m.cls := findClass_of_methodNamed Bd.named
  have hnm := (name_of_methodNamed Bd.named Bd.method).1
  have X0 : Stand p l e ({ frames := 0, cells := 0, slots := 0, locals := 0 } : Room) s m #[(.int (8 : Int32))] below meth c s₁ [] 0 0 := Stand.of_body Bd
  have e0 : s₁.heap = h0 := by rw [← hh, Bd.state]; rfl
  have N0 := Fr.nil n0
  have K0 : Keep h0 h0 [] := Keep.refl h0 _
  refine own_go (B := s₁.setTop (mkF m 0 #[.val (.int (8 : Int32))] [])) (fun t k => castTop (efrm1_8 m ) k) ?_
  refine own_go (A := s₁.setTop (mkF m 0 #[.val (.int (8 : Int32))] [])) (B := s₁.setTop (mkF m 79 #[.val (.int (8 : Int32))] [])) (fun t k => ?_) ?_
  · show Steps p.tables e below (s₁.setTop (mkF m 0 #[.val (.int (8 : Int32))] [])) _
    refine XS.iloadN X0.here hx rfl (hb hby d1_0) rfl ?_
    show Steps p.tables e below (s₁.setTop (mkF m 1 #[.val (.int (8 : Int32))] [(.int (8 : Int32))])) _
    refine XS.ifYes X0.here hx rfl (pc0 := 1) (pc' := 8) rfl (hb hby d1_1) rfl ((if0 _ _).trans (feq (by decide : ¬ ((8 : Int32) = (0 : Int32)))).2) (by decide) (by decide) ?_
    show Steps p.tables e below (s₁.setTop (mkF m 8 #[.val (.int (8 : Int32))] [])) _
    refine XS.iloadN X0.here hx rfl (hb hby d1_8) rfl ?_
    show Steps p.tables e below (s₁.setTop (mkF m 9 #[.val (.int (8 : Int32))] [(.int (8 : Int32))])) _
    refine XS.iconst X0.here hx rfl (hb hby d1_9) ?_
    show Steps p.tables e below (s₁.setTop (mkF m 10 #[.val (.int (8 : Int32))] [(.int (1 : Int32)), (.int (8 : Int32))])) _
    refine XS.icmpYes X0.here hx rfl (pc0 := 10) (pc' := 17) rfl (hb hby d1_10) rfl (feq (by decide : ¬ ((8 : Int32) = (1 : Int32)))).2 (by decide) (by decide) ?_
    show Steps p.tables e below (s₁.setTop (mkF m 17 #[.val (.int (8 : Int32))] [])) _
    refine XS.iloadN X0.here hx rfl (hb hby d1_17) rfl ?_
    show Steps p.tables e below (s₁.setTop (mkF m 18 #[.val (.int (8 : Int32))] [(.int (8 : Int32))])) _
    refine XS.iconst X0.here hx rfl (hb hby d1_18) ?_
    show Steps p.tables e below (s₁.setTop (mkF m 19 #[.val (.int (8 : Int32))] [(.int (2 : Int32)), (.int (8 : Int32))])) _
    refine XS.icmpYes X0.here hx rfl (pc0 := 19) (pc' := 26) rfl (hb hby d1_19) rfl (feq (by decide : ¬ ((8 : Int32) = (2 : Int32)))).2 (by decide) (by decide) ?_
    show Steps p.tables e below (s₁.setTop (mkF m 26 #[.val (.int (8 : Int32))] [])) _
    refine XS.iloadN X0.here hx rfl (hb hby d1_26) rfl ?_
    show Steps p.tables e below (s₁.setTop (mkF m 27 #[.val (.int (8 : Int32))] [(.int (8 : Int32))])) _
    refine XS.iconst X0.here hx rfl (hb hby d1_27) ?_
    show Steps p.tables e below (s₁.setTop (mkF m 28 #[.val (.int (8 : Int32))] [(.int (3 : Int32)), (.int (8 : Int32))])) _
    refine XS.icmpYes X0.here hx rfl (pc0 := 28) (pc' := 35) rfl (hb hby d1_28) rfl (feq (by decide : ¬ ((8 : Int32) = (3 : Int32)))).2 (by decide) (by decide) ?_
    show Steps p.tables e below (s₁.setTop (mkF m 35 #[.val (.int (8 : Int32))] [])) _
    refine XS.iloadN X0.here hx rfl (hb hby d1_35) rfl ?_
    show Steps p.tables e below (s₁.setTop (mkF m 36 #[.val (.int (8 : Int32))] [(.int (8 : Int32))])) _
    refine XS.iconst X0.here hx rfl (hb hby d1_36) ?_
    show Steps p.tables e below (s₁.setTop (mkF m 37 #[.val (.int (8 : Int32))] [(.int (4 : Int32)), (.int (8 : Int32))])) _
    refine XS.icmpYes X0.here hx rfl (pc0 := 37) (pc' := 44) rfl (hb hby d1_37) rfl (feq (by decide : ¬ ((8 : Int32) = (4 : Int32)))).2 (by decide) (by decide) ?_
    show Steps p.tables e below (s₁.setTop (mkF m 44 #[.val (.int (8 : Int32))] [])) _
    refine XS.iloadN X0.here hx rfl (hb hby d1_44) rfl ?_
    show Steps p.tables e below (s₁.setTop (mkF m 45 #[.val (.int (8 : Int32))] [(.int (8 : Int32))])) _
    refine XS.iconst X0.here hx rfl (hb hby d1_45) ?_
    show Steps p.tables e below (s₁.setTop (mkF m 46 #[.val (.int (8 : Int32))] [(.int (5 : Int32)), (.int (8 : Int32))])) _
    refine XS.icmpYes X0.here hx rfl (pc0 := 46) (pc' := 53) rfl (hb hby d1_46) rfl (feq (by decide : ¬ ((8 : Int32) = (5 : Int32)))).2 (by decide) (by decide) ?_
    show Steps p.tables e below (s₁.setTop (mkF m 53 #[.val (.int (8 : Int32))] [])) _
    refine XS.iloadN X0.here hx rfl (hb hby d1_53) rfl ?_
    show Steps p.tables e below (s₁.setTop (mkF m 54 #[.val (.int (8 : Int32))] [(.int (8 : Int32))])) _
    refine XS.bipush X0.here hx rfl (hb hby d1_54) ?_
    show Steps p.tables e below (s₁.setTop (mkF m 56 #[.val (.int (8 : Int32))] [(.int (6 : Int32)), (.int (8 : Int32))])) _
    refine XS.icmpYes X0.here hx rfl (pc0 := 56) (pc' := 63) rfl (hb hby d1_56) rfl (feq (by decide : ¬ ((8 : Int32) = (6 : Int32)))).2 (by decide) (by decide) ?_
    show Steps p.tables e below (s₁.setTop (mkF m 63 #[.val (.int (8 : Int32))] [])) _
    refine XS.iloadN X0.here hx rfl (hb hby d1_63) rfl ?_
    show Steps p.tables e below (s₁.setTop (mkF m 64 #[.val (.int (8 : Int32))] [(.int (8 : Int32))])) _
    refine XS.bipush X0.here hx rfl (hb hby d1_64) ?_
    show Steps p.tables e below (s₁.setTop (mkF m 66 #[.val (.int (8 : Int32))] [(.int (7 : Int32)), (.int (8 : Int32))])) _
    refine XS.icmpYes X0.here hx rfl (pc0 := 66) (pc' := 73) rfl (hb hby d1_66) rfl (feq (by decide : ¬ ((8 : Int32) = (7 : Int32)))).2 (by decide) (by decide) ?_
    show Steps p.tables e below (s₁.setTop (mkF m 73 #[.val (.int (8 : Int32))] [])) _
    refine XS.iloadN X0.here hx rfl (hb hby d1_73) rfl ?_
    show Steps p.tables e below (s₁.setTop (mkF m 74 #[.val (.int (8 : Int32))] [(.int (8 : Int32))])) _
    refine XS.bipush X0.here hx rfl (hb hby d1_74) ?_
    show Steps p.tables e below (s₁.setTop (mkF m 76 #[.val (.int (8 : Int32))] [(.int (8 : Int32)), (.int (8 : Int32))])) _
    refine XS.icmpNo X0.here hx rfl (hb hby d1_76) rfl (teq (rfl : (8 : Int32) = (8 : Int32))).2 ?_
    exact k
  obtain ⟨T54, X54, e54, st54⟩ := getS2 X0 hx hZ hown (host := "") (Or.inl (hw _ (List.mem_of_getElem? (i := 26) rfl))) Via.refl e0 P0 (g := (mkF m 79 #[.val (.int (8 : Int32))] [])) rfl (hb hby d1_79)
  refine own_go st54 ?_
  obtain ⟨fs, hr, hrun, hended, hW, hsame⟩ := X54.leave (v := some (.ref s_AttributeType_BOOL)) (fun h => by rw [Bd.returns] at h; cases h)
  refine ⟨_, _, ?_, hrun, hended, _, _, rfl, ?_, ⟨_, rfl⟩, hW, hsame.mono (by decide) (by decide)⟩
  · show Steps p.tables e below (T54.setTop (mkF m 82 #[.val (.int (8 : Int32))] [(.ref s_AttributeType_BOOL)])) _
    exact retOut X54 hx Bd.returns rfl (Or.inr (Or.inr (Or.inr (Or.inr ⟨rfl, rfl, rfl⟩)))) (hb hby d1_82) hr
  · show Qrm1_8 Z s_AttributeType_BOOL h0 n0 _ T54.heap _
    rw [e54]
    exact ⟨rfl, N0, rfl⟩
def Qrm1_9 (Z : State) (s_AttributeType_NULL : Addr) (h0 : Heap) (n0 : Nat) (v : Option Value) (h : Heap) (L : List Loc) : Prop := v = some (.ref s_AttributeType_NULL) ∧ Fr n0 L ∧ h = h0
theorem efrm1_9 (m : MethodId)  : entryFrame m #[(.int (9 : Int32))] 1 = mkF m 0 #[.val (.int (9 : Int32))] [] := by first | (simp [entryFrame, mkF, argsToLocals, Value.category]; done) | rfl
set_option maxRecDepth 65536 in
set_option maxHeartbeats 40000000 in
theorem rm1_9 (l : Launch) (Z : State) (a0 : Array Value) (hw : ∀ d ∈ tables_1, d.before a0 Z = true) (ws : List Jvm.Cond) (s_AttributeType_NULL : Addr) (h0 : Heap) (n0 : Nat) (Z0 : n0 ≤ h0.size) (P0 : Sta Z h0 "com/example/portunus/portunus/model/AttributeType" "NULL" "Lcom/example/portunus/portunus/model/AttributeType;" (.ref s_AttributeType_NULL)) :
    MetFree l (⟨"com/example/portunus/portunus/model/AttributeTypeIsScalarPinLaw", "pick", "(I)Lcom/example/portunus/portunus/model/AttributeType;"⟩ : MethodName) (head1 (Jvm.Cond.code (⟨"com/example/portunus/portunus/model/AttributeTypeIsScalarPinLaw", "pick", "(I)Lcom/example/portunus/portunus/model/AttributeType;"⟩ : MethodName) method_3_code 1 (some (.object "com/example/portunus/portunus/model/AttributeType")) :: ws) ({ frames := 0, cells := 0, slots := 0, locals := 0 } : Room)) (fun a U => a = #[(.int (9 : Int32))] ∧ Z.Warmed39 U.vm ∧ U.heap = h0) (fun _ _ _ _ _ => True) (fun _ U o U' => ∃ v L, o = .returned v ∧ Qrm1_9 Z s_AttributeType_NULL h0 n0 v U'.heap L ∧ FrameEnd U o U' L ({ frames := 0, cells := 0, slots := 0, locals := 0 } : Room).cells ({ frames := 0, cells := 0, slots := 0, locals := 0 } : Room).slots) := by
  refine MetFree.of_bodySF (plainFor_of_name pn_0) hisR ?_
  intro p e s m args below meth c s₁ Bd hml0 hP hK
  obtain ⟨rfl, hZ, hh⟩ := hP
  have hx := Bd.exec
  have hby := Bd.bytes
  have hml : c.maxLocals = 1 := hml0
  have hown : s.vm.findClass "com/example/portunus/portunus/model/AttributeTypeIsScalarPinLaw" = some m.cls := findClass_of_methodNamed Bd.named
  have hnm := (name_of_methodNamed Bd.named Bd.method).1
  have X0 : Stand p l e ({ frames := 0, cells := 0, slots := 0, locals := 0 } : Room) s m #[(.int (9 : Int32))] below meth c s₁ [] 0 0 := Stand.of_body Bd
  have e0 : s₁.heap = h0 := by rw [← hh, Bd.state]; rfl
  have N0 := Fr.nil n0
  have K0 : Keep h0 h0 [] := Keep.refl h0 _
  refine own_go (B := s₁.setTop (mkF m 0 #[.val (.int (9 : Int32))] [])) (fun t k => castTop (efrm1_9 m ) k) ?_
  refine own_go (A := s₁.setTop (mkF m 0 #[.val (.int (9 : Int32))] [])) (B := s₁.setTop (mkF m 83 #[.val (.int (9 : Int32))] [])) (fun t k => ?_) ?_
  · show Steps p.tables e below (s₁.setTop (mkF m 0 #[.val (.int (9 : Int32))] [])) _
    refine XS.iloadN X0.here hx rfl (hb hby d1_0) rfl ?_
    show Steps p.tables e below (s₁.setTop (mkF m 1 #[.val (.int (9 : Int32))] [(.int (9 : Int32))])) _
    refine XS.ifYes X0.here hx rfl (pc0 := 1) (pc' := 8) rfl (hb hby d1_1) rfl ((if0 _ _).trans (feq (by decide : ¬ ((9 : Int32) = (0 : Int32)))).2) (by decide) (by decide) ?_
    show Steps p.tables e below (s₁.setTop (mkF m 8 #[.val (.int (9 : Int32))] [])) _
    refine XS.iloadN X0.here hx rfl (hb hby d1_8) rfl ?_
    show Steps p.tables e below (s₁.setTop (mkF m 9 #[.val (.int (9 : Int32))] [(.int (9 : Int32))])) _
    refine XS.iconst X0.here hx rfl (hb hby d1_9) ?_
    show Steps p.tables e below (s₁.setTop (mkF m 10 #[.val (.int (9 : Int32))] [(.int (1 : Int32)), (.int (9 : Int32))])) _
    refine XS.icmpYes X0.here hx rfl (pc0 := 10) (pc' := 17) rfl (hb hby d1_10) rfl (feq (by decide : ¬ ((9 : Int32) = (1 : Int32)))).2 (by decide) (by decide) ?_
    show Steps p.tables e below (s₁.setTop (mkF m 17 #[.val (.int (9 : Int32))] [])) _
    refine XS.iloadN X0.here hx rfl (hb hby d1_17) rfl ?_
    show Steps p.tables e below (s₁.setTop (mkF m 18 #[.val (.int (9 : Int32))] [(.int (9 : Int32))])) _
    refine XS.iconst X0.here hx rfl (hb hby d1_18) ?_
    show Steps p.tables e below (s₁.setTop (mkF m 19 #[.val (.int (9 : Int32))] [(.int (2 : Int32)), (.int (9 : Int32))])) _
    refine XS.icmpYes X0.here hx rfl (pc0 := 19) (pc' := 26) rfl (hb hby d1_19) rfl (feq (by decide : ¬ ((9 : Int32) = (2 : Int32)))).2 (by decide) (by decide) ?_
    show Steps p.tables e below (s₁.setTop (mkF m 26 #[.val (.int (9 : Int32))] [])) _
    refine XS.iloadN X0.here hx rfl (hb hby d1_26) rfl ?_
    show Steps p.tables e below (s₁.setTop (mkF m 27 #[.val (.int (9 : Int32))] [(.int (9 : Int32))])) _
    refine XS.iconst X0.here hx rfl (hb hby d1_27) ?_
    show Steps p.tables e below (s₁.setTop (mkF m 28 #[.val (.int (9 : Int32))] [(.int (3 : Int32)), (.int (9 : Int32))])) _
    refine XS.icmpYes X0.here hx rfl (pc0 := 28) (pc' := 35) rfl (hb hby d1_28) rfl (feq (by decide : ¬ ((9 : Int32) = (3 : Int32)))).2 (by decide) (by decide) ?_
    show Steps p.tables e below (s₁.setTop (mkF m 35 #[.val (.int (9 : Int32))] [])) _
    refine XS.iloadN X0.here hx rfl (hb hby d1_35) rfl ?_
    show Steps p.tables e below (s₁.setTop (mkF m 36 #[.val (.int (9 : Int32))] [(.int (9 : Int32))])) _
    refine XS.iconst X0.here hx rfl (hb hby d1_36) ?_
    show Steps p.tables e below (s₁.setTop (mkF m 37 #[.val (.int (9 : Int32))] [(.int (4 : Int32)), (.int (9 : Int32))])) _
    refine XS.icmpYes X0.here hx rfl (pc0 := 37) (pc' := 44) rfl (hb hby d1_37) rfl (feq (by decide : ¬ ((9 : Int32) = (4 : Int32)))).2 (by decide) (by decide) ?_
    show Steps p.tables e below (s₁.setTop (mkF m 44 #[.val (.int (9 : Int32))] [])) _
    refine XS.iloadN X0.here hx rfl (hb hby d1_44) rfl ?_
    show Steps p.tables e below (s₁.setTop (mkF m 45 #[.val (.int (9 : Int32))] [(.int (9 : Int32))])) _
    refine XS.iconst X0.here hx rfl (hb hby d1_45) ?_
    show Steps p.tables e below (s₁.setTop (mkF m 46 #[.val (.int (9 : Int32))] [(.int (5 : Int32)), (.int (9 : Int32))])) _
    refine XS.icmpYes X0.here hx rfl (pc0 := 46) (pc' := 53) rfl (hb hby d1_46) rfl (feq (by decide : ¬ ((9 : Int32) = (5 : Int32)))).2 (by decide) (by decide) ?_
    show Steps p.tables e below (s₁.setTop (mkF m 53 #[.val (.int (9 : Int32))] [])) _
    refine XS.iloadN X0.here hx rfl (hb hby d1_53) rfl ?_
    show Steps p.tables e below (s₁.setTop (mkF m 54 #[.val (.int (9 : Int32))] [(.int (9 : Int32))])) _
    refine XS.bipush X0.here hx rfl (hb hby d1_54) ?_
    show Steps p.tables e below (s₁.setTop (mkF m 56 #[.val (.int (9 : Int32))] [(.int (6 : Int32)), (.int (9 : Int32))])) _
    refine XS.icmpYes X0.here hx rfl (pc0 := 56) (pc' := 63) rfl (hb hby d1_56) rfl (feq (by decide : ¬ ((9 : Int32) = (6 : Int32)))).2 (by decide) (by decide) ?_
    show Steps p.tables e below (s₁.setTop (mkF m 63 #[.val (.int (9 : Int32))] [])) _
    refine XS.iloadN X0.here hx rfl (hb hby d1_63) rfl ?_
    show Steps p.tables e below (s₁.setTop (mkF m 64 #[.val (.int (9 : Int32))] [(.int (9 : Int32))])) _
    refine XS.bipush X0.here hx rfl (hb hby d1_64) ?_
    show Steps p.tables e below (s₁.setTop (mkF m 66 #[.val (.int (9 : Int32))] [(.int (7 : Int32)), (.int (9 : Int32))])) _
    refine XS.icmpYes X0.here hx rfl (pc0 := 66) (pc' := 73) rfl (hb hby d1_66) rfl (feq (by decide : ¬ ((9 : Int32) = (7 : Int32)))).2 (by decide) (by decide) ?_
    show Steps p.tables e below (s₁.setTop (mkF m 73 #[.val (.int (9 : Int32))] [])) _
    refine XS.iloadN X0.here hx rfl (hb hby d1_73) rfl ?_
    show Steps p.tables e below (s₁.setTop (mkF m 74 #[.val (.int (9 : Int32))] [(.int (9 : Int32))])) _
    refine XS.bipush X0.here hx rfl (hb hby d1_74) ?_
    show Steps p.tables e below (s₁.setTop (mkF m 76 #[.val (.int (9 : Int32))] [(.int (8 : Int32)), (.int (9 : Int32))])) _
    refine XS.icmpYes X0.here hx rfl (pc0 := 76) (pc' := 83) rfl (hb hby d1_76) rfl (feq (by decide : ¬ ((9 : Int32) = (8 : Int32)))).2 (by decide) (by decide) ?_
    exact k
  obtain ⟨T64, X64, e64, st64⟩ := getS2 X0 hx hZ hown (host := "") (Or.inl (hw _ (List.mem_of_getElem? (i := 28) rfl))) Via.refl e0 P0 (g := (mkF m 83 #[.val (.int (9 : Int32))] [])) rfl (hb hby d1_83)
  refine own_go st64 ?_
  obtain ⟨fs, hr, hrun, hended, hW, hsame⟩ := X64.leave (v := some (.ref s_AttributeType_NULL)) (fun h => by rw [Bd.returns] at h; cases h)
  refine ⟨_, _, ?_, hrun, hended, _, _, rfl, ?_, ⟨_, rfl⟩, hW, hsame.mono (by decide) (by decide)⟩
  · show Steps p.tables e below (T64.setTop (mkF m 86 #[.val (.int (9 : Int32))] [(.ref s_AttributeType_NULL)])) _
    exact retOut X64 hx Bd.returns rfl (Or.inr (Or.inr (Or.inr (Or.inr ⟨rfl, rfl, rfl⟩)))) (hb hby d1_86) hr
  · show Qrm1_9 Z s_AttributeType_NULL h0 n0 _ T64.heap _
    rw [e64]
    exact ⟨rfl, N0, rfl⟩
def frm2 (a1 : Addr) (s_AttributeType_S : Addr) (s_AttributeType_N : Addr) (s_AttributeType_B : Addr) : Int32 := (if a1 = s_AttributeType_S then (1 : Int32) else (if a1 = s_AttributeType_N then (1 : Int32) else (if a1 = s_AttributeType_B then (1 : Int32) else (0 : Int32))))
def Qrm2 (Z : State) (a1 : Addr) (s_AttributeType_S : Addr) (s_AttributeType_N : Addr) (s_AttributeType_B : Addr) (h0 : Heap) (n0 : Nat) (v : Option Value) (h : Heap) (L : List Loc) : Prop := v = some (.int (frm2 a1 s_AttributeType_S s_AttributeType_N s_AttributeType_B)) ∧ Fr n0 L ∧ h = h0
theorem efrm2 (m : MethodId) (x0 : Addr) : entryFrame m #[(.ref x0)] 1 = mkF m 0 #[.val (.ref x0)] [] := by first | (simp [entryFrame, mkF, argsToLocals, Value.category]; done) | rfl
set_option maxRecDepth 65536 in
set_option maxHeartbeats 40000000 in
theorem rm2 (l : Launch) (Z : State) (a0 : Array Value) (hw : ∀ d ∈ tables_1, d.before a0 Z = true) (ws : List Jvm.Cond) (a1 : Addr) (s_AttributeType_S : Addr) (s_AttributeType_N : Addr) (s_AttributeType_B : Addr) (h0 : Heap) (n0 : Nat) (Z0 : n0 ≤ h0.size) (P0 : Sta Z h0 "com/example/portunus/portunus/model/AttributeType" "S" "Lcom/example/portunus/portunus/model/AttributeType;" (.ref s_AttributeType_S)) (P1 : Sta Z h0 "com/example/portunus/portunus/model/AttributeType" "N" "Lcom/example/portunus/portunus/model/AttributeType;" (.ref s_AttributeType_N)) (P2 : Sta Z h0 "com/example/portunus/portunus/model/AttributeType" "B" "Lcom/example/portunus/portunus/model/AttributeType;" (.ref s_AttributeType_B)) :
    MetFree l (⟨"com/example/portunus/portunus/model/AttributeType", "isScalar", "()Z"⟩ : MethodName) (head1 (Jvm.Cond.code (⟨"com/example/portunus/portunus/model/AttributeType", "isScalar", "()Z"⟩ : MethodName) prog_81_method_4_code 1 (some .boolean) :: ws) ({ frames := 0, cells := 0, slots := 0, locals := 0 } : Room)) (fun a U => a = #[(.ref a1)] ∧ Z.Warmed39 U.vm ∧ U.heap = h0) (fun _ _ _ _ _ => True) (fun _ U o U' => ∃ v L, o = .returned v ∧ Qrm2 Z a1 s_AttributeType_S s_AttributeType_N s_AttributeType_B h0 n0 v U'.heap L ∧ FrameEnd U o U' L ({ frames := 0, cells := 0, slots := 0, locals := 0 } : Room).cells ({ frames := 0, cells := 0, slots := 0, locals := 0 } : Room).slots) := by
  refine MetFree.of_bodySF (plainFor_of_name pn_1) hisR ?_
  intro p e s m args below meth c s₁ Bd hml0 hP hK
  obtain ⟨rfl, hZ, hh⟩ := hP
  have hx := Bd.exec
  have hby := Bd.bytes
  have hml : c.maxLocals = 1 := hml0
  have hown : s.vm.findClass "com/example/portunus/portunus/model/AttributeType" = some m.cls := findClass_of_methodNamed Bd.named
  have hnm := (name_of_methodNamed Bd.named Bd.method).1
  have X0 : Stand p l e ({ frames := 0, cells := 0, slots := 0, locals := 0 } : Room) s m #[(.ref a1)] below meth c s₁ [] 0 0 := Stand.of_body Bd
  have e0 : s₁.heap = h0 := by rw [← hh, Bd.state]; rfl
  have N0 := Fr.nil n0
  have K0 : Keep h0 h0 [] := Keep.refl h0 _
  refine own_go (B := s₁.setTop (mkF m 0 #[.val (.ref a1)] [])) (fun t k => castTop (efrm2 m a1) k) ?_
  refine own_go (A := s₁.setTop (mkF m 0 #[.val (.ref a1)] [])) (B := s₁.setTop (mkF m 1 #[.val (.ref a1)] [(.ref a1)])) (fun t k => ?_) ?_
  · show Steps p.tables e below (s₁.setTop (mkF m 0 #[.val (.ref a1)] [])) _
    refine XS.aloadN X0.here hx rfl (hb hby d2_0) rfl rfl ?_
    exact k
  obtain ⟨T65, X65, e65, st65⟩ := getS2 X0 hx hZ hown (host := "") (Or.inl (hw _ (List.mem_of_getElem? (i := 13) rfl))) Via.refl e0 P0 (g := (mkF m 1 #[.val (.ref a1)] [(.ref a1)])) rfl (hb hby d2_1)
  refine own_go st65 ?_
  by_cases hc4_66 : a1 = s_AttributeType_S
  · refine own_go (A := T65.setTop (mkF m 4 #[.val (.ref a1)] [(.ref s_AttributeType_S), (.ref a1)])) (B := T65.setTop (mkF m 21 #[.val (.ref a1)] [])) (fun t k => ?_) ?_
    · show Steps p.tables e below (T65.setTop (mkF m 4 #[.val (.ref a1)] [(.ref s_AttributeType_S), (.ref a1)])) _
      refine Jvm.RoadKit.acmp (g := (mkF m 4 #[.val (.ref a1)] [(.ref s_AttributeType_S), (.ref a1)])) X65 hx rfl rfl rfl (pc0 := 4) (pc' := 21) (same := true) rfl (hb hby d2_4) rfl (decide_eq_true (congrArg Value.ref hc4_66)) (by decide) (by decide) ?_
      exact k
    refine own_go (A := T65.setTop (mkF m 21 #[.val (.ref a1)] [])) (B := T65.setTop (mkF m 26 #[.val (.ref a1)] [(.int (1 : Int32))])) (fun t k => ?_) ?_
    · show Steps p.tables e below (T65.setTop (mkF m 21 #[.val (.ref a1)] [])) _
      refine XS.iconst X65.here hx rfl (hb hby d2_21) ?_
      show Steps p.tables e below (T65.setTop (mkF m 22 #[.val (.ref a1)] [(.int (1 : Int32))])) _
      refine XS.goto X65.here hx rfl (pc0 := 22) (pc' := 26) rfl (hb hby d2_22) (by decide) (by decide) ?_
      exact k
    obtain ⟨fs, hr, hrun, hended, hW, hsame⟩ := X65.leave (v := some (.int (1 : Int32))) (fun h => by rw [Bd.returns] at h; cases h)
    refine ⟨_, _, ?_, hrun, hended, _, _, rfl, ?_, ⟨_, rfl⟩, hW, hsame.mono (by decide) (by decide)⟩
    · show Steps p.tables e below (T65.setTop (mkF m 26 #[.val (.ref a1)] [(.int (1 : Int32))])) _
      exact retN X65 hx (t := .boolean) Bd.returns (by simp) (hb hby d2_26) hr
    · show Qrm2 Z a1 s_AttributeType_S s_AttributeType_N s_AttributeType_B h0 n0 _ T65.heap _
      rw [e65]
      exact ⟨(by simp only [frm2, if_pos hc4_66]), N0, rfl⟩
  · refine own_go (A := T65.setTop (mkF m 4 #[.val (.ref a1)] [(.ref s_AttributeType_S), (.ref a1)])) (B := T65.setTop (mkF m 7 #[.val (.ref a1)] [])) (fun t k => ?_) ?_
    · show Steps p.tables e below (T65.setTop (mkF m 4 #[.val (.ref a1)] [(.ref s_AttributeType_S), (.ref a1)])) _
      refine Jvm.RoadKit.acmp (g := (mkF m 4 #[.val (.ref a1)] [(.ref s_AttributeType_S), (.ref a1)])) X65 hx rfl rfl rfl (pc0 := 4) (pc' := 7) (same := false) rfl (hb hby d2_4) rfl (decide_eq_false fun q => hc4_66 (Value.ref.inj q)) (by decide) (by decide) ?_
      exact k
    refine own_go (A := T65.setTop (mkF m 7 #[.val (.ref a1)] [])) (B := T65.setTop (mkF m 8 #[.val (.ref a1)] [(.ref a1)])) (fun t k => ?_) ?_
    · show Steps p.tables e below (T65.setTop (mkF m 7 #[.val (.ref a1)] [])) _
      refine XS.aloadN X65.here hx rfl (hb hby d2_7) rfl rfl ?_
      exact k
    obtain ⟨T67, X67, e67, st67⟩ := getS2 X65 hx hZ hown (host := "") (Or.inl (hw _ (List.mem_of_getElem? (i := 16) rfl))) Via.refl e65 P1 (g := (mkF m 8 #[.val (.ref a1)] [(.ref a1)])) rfl (hb hby d2_8)
    refine own_go st67 ?_
    by_cases hc11_68 : a1 = s_AttributeType_N
    · refine own_go (A := T67.setTop (mkF m 11 #[.val (.ref a1)] [(.ref s_AttributeType_N), (.ref a1)])) (B := T67.setTop (mkF m 21 #[.val (.ref a1)] [])) (fun t k => ?_) ?_
      · show Steps p.tables e below (T67.setTop (mkF m 11 #[.val (.ref a1)] [(.ref s_AttributeType_N), (.ref a1)])) _
        refine Jvm.RoadKit.acmp (g := (mkF m 11 #[.val (.ref a1)] [(.ref s_AttributeType_N), (.ref a1)])) X67 hx rfl rfl rfl (pc0 := 11) (pc' := 21) (same := true) rfl (hb hby d2_11) rfl (decide_eq_true (congrArg Value.ref hc11_68)) (by decide) (by decide) ?_
        exact k
      refine own_go (A := T67.setTop (mkF m 21 #[.val (.ref a1)] [])) (B := T67.setTop (mkF m 26 #[.val (.ref a1)] [(.int (1 : Int32))])) (fun t k => ?_) ?_
      · show Steps p.tables e below (T67.setTop (mkF m 21 #[.val (.ref a1)] [])) _
        refine XS.iconst X67.here hx rfl (hb hby d2_21) ?_
        show Steps p.tables e below (T67.setTop (mkF m 22 #[.val (.ref a1)] [(.int (1 : Int32))])) _
        refine XS.goto X67.here hx rfl (pc0 := 22) (pc' := 26) rfl (hb hby d2_22) (by decide) (by decide) ?_
        exact k
      obtain ⟨fs, hr, hrun, hended, hW, hsame⟩ := X67.leave (v := some (.int (1 : Int32))) (fun h => by rw [Bd.returns] at h; cases h)
      refine ⟨_, _, ?_, hrun, hended, _, _, rfl, ?_, ⟨_, rfl⟩, hW, hsame.mono (by decide) (by decide)⟩
      · show Steps p.tables e below (T67.setTop (mkF m 26 #[.val (.ref a1)] [(.int (1 : Int32))])) _
        exact retN X67 hx (t := .boolean) Bd.returns (by simp) (hb hby d2_26) hr
      · show Qrm2 Z a1 s_AttributeType_S s_AttributeType_N s_AttributeType_B h0 n0 _ T67.heap _
        rw [e67]
        exact ⟨(by simp only [frm2, if_neg hc4_66, if_pos hc11_68]), N0, rfl⟩
    · refine own_go (A := T67.setTop (mkF m 11 #[.val (.ref a1)] [(.ref s_AttributeType_N), (.ref a1)])) (B := T67.setTop (mkF m 14 #[.val (.ref a1)] [])) (fun t k => ?_) ?_
      · show Steps p.tables e below (T67.setTop (mkF m 11 #[.val (.ref a1)] [(.ref s_AttributeType_N), (.ref a1)])) _
        refine Jvm.RoadKit.acmp (g := (mkF m 11 #[.val (.ref a1)] [(.ref s_AttributeType_N), (.ref a1)])) X67 hx rfl rfl rfl (pc0 := 11) (pc' := 14) (same := false) rfl (hb hby d2_11) rfl (decide_eq_false fun q => hc11_68 (Value.ref.inj q)) (by decide) (by decide) ?_
        exact k
      refine own_go (A := T67.setTop (mkF m 14 #[.val (.ref a1)] [])) (B := T67.setTop (mkF m 15 #[.val (.ref a1)] [(.ref a1)])) (fun t k => ?_) ?_
      · show Steps p.tables e below (T67.setTop (mkF m 14 #[.val (.ref a1)] [])) _
        refine XS.aloadN X67.here hx rfl (hb hby d2_14) rfl rfl ?_
        exact k
      obtain ⟨T69, X69, e69, st69⟩ := getS2 X67 hx hZ hown (host := "") (Or.inl (hw _ (List.mem_of_getElem? (i := 18) rfl))) Via.refl e67 P2 (g := (mkF m 15 #[.val (.ref a1)] [(.ref a1)])) rfl (hb hby d2_15)
      refine own_go st69 ?_
      by_cases hc18_70 : a1 = s_AttributeType_B
      · refine own_go (A := T69.setTop (mkF m 18 #[.val (.ref a1)] [(.ref s_AttributeType_B), (.ref a1)])) (B := T69.setTop (mkF m 21 #[.val (.ref a1)] [])) (fun t k => ?_) ?_
        · show Steps p.tables e below (T69.setTop (mkF m 18 #[.val (.ref a1)] [(.ref s_AttributeType_B), (.ref a1)])) _
          refine Jvm.RoadKit.acmp (g := (mkF m 18 #[.val (.ref a1)] [(.ref s_AttributeType_B), (.ref a1)])) X69 hx rfl rfl rfl (pc0 := 18) (pc' := 21) (same := true) rfl (hb hby d2_18) rfl (decide_eq_true (congrArg Value.ref hc18_70)) (by decide) (by decide) ?_
          exact k
        refine own_go (A := T69.setTop (mkF m 21 #[.val (.ref a1)] [])) (B := T69.setTop (mkF m 26 #[.val (.ref a1)] [(.int (1 : Int32))])) (fun t k => ?_) ?_
        · show Steps p.tables e below (T69.setTop (mkF m 21 #[.val (.ref a1)] [])) _
          refine XS.iconst X69.here hx rfl (hb hby d2_21) ?_
          show Steps p.tables e below (T69.setTop (mkF m 22 #[.val (.ref a1)] [(.int (1 : Int32))])) _
          refine XS.goto X69.here hx rfl (pc0 := 22) (pc' := 26) rfl (hb hby d2_22) (by decide) (by decide) ?_
          exact k
        obtain ⟨fs, hr, hrun, hended, hW, hsame⟩ := X69.leave (v := some (.int (1 : Int32))) (fun h => by rw [Bd.returns] at h; cases h)
        refine ⟨_, _, ?_, hrun, hended, _, _, rfl, ?_, ⟨_, rfl⟩, hW, hsame.mono (by decide) (by decide)⟩
        · show Steps p.tables e below (T69.setTop (mkF m 26 #[.val (.ref a1)] [(.int (1 : Int32))])) _
          exact retN X69 hx (t := .boolean) Bd.returns (by simp) (hb hby d2_26) hr
        · show Qrm2 Z a1 s_AttributeType_S s_AttributeType_N s_AttributeType_B h0 n0 _ T69.heap _
          rw [e69]
          exact ⟨(by simp only [frm2, if_neg hc4_66, if_neg hc11_68, if_pos hc18_70]), N0, rfl⟩
      · refine own_go (A := T69.setTop (mkF m 18 #[.val (.ref a1)] [(.ref s_AttributeType_B), (.ref a1)])) (B := T69.setTop (mkF m 25 #[.val (.ref a1)] [])) (fun t k => ?_) ?_
        · show Steps p.tables e below (T69.setTop (mkF m 18 #[.val (.ref a1)] [(.ref s_AttributeType_B), (.ref a1)])) _
          refine Jvm.RoadKit.acmp (g := (mkF m 18 #[.val (.ref a1)] [(.ref s_AttributeType_B), (.ref a1)])) X69 hx rfl rfl rfl (pc0 := 18) (pc' := 25) (same := false) rfl (hb hby d2_18) rfl (decide_eq_false fun q => hc18_70 (Value.ref.inj q)) (by decide) (by decide) ?_
          exact k
        refine own_go (A := T69.setTop (mkF m 25 #[.val (.ref a1)] [])) (B := T69.setTop (mkF m 26 #[.val (.ref a1)] [(.int (0 : Int32))])) (fun t k => ?_) ?_
        · show Steps p.tables e below (T69.setTop (mkF m 25 #[.val (.ref a1)] [])) _
          refine XS.iconst X69.here hx rfl (hb hby d2_25) ?_
          exact k
        obtain ⟨fs, hr, hrun, hended, hW, hsame⟩ := X69.leave (v := some (.int (0 : Int32))) (fun h => by rw [Bd.returns] at h; cases h)
        refine ⟨_, _, ?_, hrun, hended, _, _, rfl, ?_, ⟨_, rfl⟩, hW, hsame.mono (by decide) (by decide)⟩
        · show Steps p.tables e below (T69.setTop (mkF m 26 #[.val (.ref a1)] [(.int (0 : Int32))])) _
          exact retN X69 hx (t := .boolean) Bd.returns (by simp) (hb hby d2_26) hr
        · show Qrm2 Z a1 s_AttributeType_S s_AttributeType_N s_AttributeType_B h0 n0 _ T69.heap _
          rw [e69]
          exact ⟨(by simp only [frm2, if_neg hc4_66, if_neg hc11_68, if_neg hc18_70]), N0, rfl⟩
theorem own_eqint {args : Array Value} {s : State} {t : Term} {k : Int32} (h : (Jvm.Cond.eq t (Term.int k)).value args s none s [] = some true) : t.eval args s none [] s = some (.int k) := by
  simp only [Cond.value, Term.eval] at h
  cases ht : t.eval args s none [] s with
  | none => simp [ht] at h
  | some x => cases x <;> simp [ht] at h ⊢; exact h
theorem own_rem (x : Int32) : ((x &&& (2147483647 : Int32)) % (10 : Int32)) = (0 : Int32) ∨ ((x &&& (2147483647 : Int32)) % (10 : Int32)) = (1 : Int32) ∨ ((x &&& (2147483647 : Int32)) % (10 : Int32)) = (2 : Int32) ∨ ((x &&& (2147483647 : Int32)) % (10 : Int32)) = (3 : Int32) ∨ ((x &&& (2147483647 : Int32)) % (10 : Int32)) = (4 : Int32) ∨ ((x &&& (2147483647 : Int32)) % (10 : Int32)) = (5 : Int32) ∨ ((x &&& (2147483647 : Int32)) % (10 : Int32)) = (6 : Int32) ∨ ((x &&& (2147483647 : Int32)) % (10 : Int32)) = (7 : Int32) ∨ ((x &&& (2147483647 : Int32)) % (10 : Int32)) = (8 : Int32) ∨ ((x &&& (2147483647 : Int32)) % (10 : Int32)) = (9 : Int32) := by
  have h1 := (c_and x 2147483647 (by decide)).1
  have h2 := (c_irem (x &&& (2147483647 : Int32)) 10 10 rfl).1 h1
  have h3 : 0 ≤ ((x &&& (2147483647 : Int32)) % (10 : Int32)).toInt := by rw [h2]; omega
  have h4 : ((x &&& (2147483647 : Int32)) % (10 : Int32)).toInt < 10 := by rw [h2]; omega
  simp only [← Int32.toInt_inj]
  simp only [Int32.reduceToInt]
  omega
def Qrm0 (Z : State) (p1 : Int32) (s_AttributeType_S : Addr) (s_AttributeType_N : Addr) (s_AttributeType_B : Addr) (s_AttributeType_SS : Addr) (s_AttributeType_NS : Addr) (s_AttributeType_BS : Addr) (s_AttributeType_M : Addr) (s_AttributeType_L : Addr) (s_AttributeType_BOOL : Addr) (s_AttributeType_NULL : Addr) (h0 : Heap) (n0 : Nat) (v : Option Value) (h : Heap) (L : List Loc) : Prop := v = some (.int (1 : Int32)) ∧ Fr n0 L
theorem efrm0 (m : MethodId) (x0 : Int32) : entryFrame m #[(.int x0)] maxLocals = mkF m 0 #[.val (.int x0), .unset, .unset, .unset] [] := by first | (simp [entryFrame, mkF, argsToLocals, Value.category, maxLocals]; done) | rfl
set_option maxRecDepth 65536 in
set_option maxHeartbeats 40000000 in
theorem rm0 (l : Launch) (Z : State) (a0 : Array Value) (hw : ∀ d ∈ tables_1, d.before a0 Z = true) (ws : List Jvm.Cond) (p1 : Int32) (s_AttributeType_S : Addr) (s_AttributeType_N : Addr) (s_AttributeType_B : Addr) (s_AttributeType_SS : Addr) (s_AttributeType_NS : Addr) (s_AttributeType_BS : Addr) (s_AttributeType_M : Addr) (s_AttributeType_L : Addr) (s_AttributeType_BOOL : Addr) (s_AttributeType_NULL : Addr) (h0 : Heap) (n0 : Nat) (Z0 : n0 ≤ h0.size) (P0 : Sta Z h0 "com/example/portunus/portunus/model/AttributeType" "S" "Lcom/example/portunus/portunus/model/AttributeType;" (.ref s_AttributeType_S)) (P1 : Exa Z h0 s_AttributeType_S "com/example/portunus/portunus/model/AttributeType") (P2 : Sta Z h0 "com/example/portunus/portunus/model/AttributeType" "N" "Lcom/example/portunus/portunus/model/AttributeType;" (.ref s_AttributeType_N)) (P3 : Exa Z h0 s_AttributeType_N "com/example/portunus/portunus/model/AttributeType") (P4 : Sta Z h0 "com/example/portunus/portunus/model/AttributeType" "B" "Lcom/example/portunus/portunus/model/AttributeType;" (.ref s_AttributeType_B)) (P5 : Exa Z h0 s_AttributeType_B "com/example/portunus/portunus/model/AttributeType") (P6 : Sta Z h0 "com/example/portunus/portunus/model/AttributeType" "SS" "Lcom/example/portunus/portunus/model/AttributeType;" (.ref s_AttributeType_SS)) (P7 : Exa Z h0 s_AttributeType_SS "com/example/portunus/portunus/model/AttributeType") (P8 : Sta Z h0 "com/example/portunus/portunus/model/AttributeType" "NS" "Lcom/example/portunus/portunus/model/AttributeType;" (.ref s_AttributeType_NS)) (P9 : Exa Z h0 s_AttributeType_NS "com/example/portunus/portunus/model/AttributeType") (P10 : Sta Z h0 "com/example/portunus/portunus/model/AttributeType" "BS" "Lcom/example/portunus/portunus/model/AttributeType;" (.ref s_AttributeType_BS)) (P11 : Exa Z h0 s_AttributeType_BS "com/example/portunus/portunus/model/AttributeType") (P12 : Sta Z h0 "com/example/portunus/portunus/model/AttributeType" "M" "Lcom/example/portunus/portunus/model/AttributeType;" (.ref s_AttributeType_M)) (P13 : Exa Z h0 s_AttributeType_M "com/example/portunus/portunus/model/AttributeType") (P14 : Sta Z h0 "com/example/portunus/portunus/model/AttributeType" "L" "Lcom/example/portunus/portunus/model/AttributeType;" (.ref s_AttributeType_L)) (P15 : Exa Z h0 s_AttributeType_L "com/example/portunus/portunus/model/AttributeType") (P16 : Sta Z h0 "com/example/portunus/portunus/model/AttributeType" "BOOL" "Lcom/example/portunus/portunus/model/AttributeType;" (.ref s_AttributeType_BOOL)) (P17 : Exa Z h0 s_AttributeType_BOOL "com/example/portunus/portunus/model/AttributeType") (P18 : Sta Z h0 "com/example/portunus/portunus/model/AttributeType" "NULL" "Lcom/example/portunus/portunus/model/AttributeType;" (.ref s_AttributeType_NULL)) (P19 : Exa Z h0 s_AttributeType_NULL "com/example/portunus/portunus/model/AttributeType") (ne_s_AttributeType_N_s_AttributeType_S : s_AttributeType_N ≠ s_AttributeType_S) (ne_s_AttributeType_B_s_AttributeType_S : s_AttributeType_B ≠ s_AttributeType_S) (ne_s_AttributeType_B_s_AttributeType_N : s_AttributeType_B ≠ s_AttributeType_N) (ne_s_AttributeType_SS_s_AttributeType_S : s_AttributeType_SS ≠ s_AttributeType_S) (ne_s_AttributeType_SS_s_AttributeType_N : s_AttributeType_SS ≠ s_AttributeType_N) (ne_s_AttributeType_SS_s_AttributeType_B : s_AttributeType_SS ≠ s_AttributeType_B) (ne_s_AttributeType_NS_s_AttributeType_S : s_AttributeType_NS ≠ s_AttributeType_S) (ne_s_AttributeType_NS_s_AttributeType_N : s_AttributeType_NS ≠ s_AttributeType_N) (ne_s_AttributeType_NS_s_AttributeType_B : s_AttributeType_NS ≠ s_AttributeType_B) (ne_s_AttributeType_BS_s_AttributeType_S : s_AttributeType_BS ≠ s_AttributeType_S) (ne_s_AttributeType_BS_s_AttributeType_N : s_AttributeType_BS ≠ s_AttributeType_N) (ne_s_AttributeType_BS_s_AttributeType_B : s_AttributeType_BS ≠ s_AttributeType_B) (ne_s_AttributeType_M_s_AttributeType_S : s_AttributeType_M ≠ s_AttributeType_S) (ne_s_AttributeType_M_s_AttributeType_N : s_AttributeType_M ≠ s_AttributeType_N) (ne_s_AttributeType_M_s_AttributeType_B : s_AttributeType_M ≠ s_AttributeType_B) (ne_s_AttributeType_L_s_AttributeType_S : s_AttributeType_L ≠ s_AttributeType_S) (ne_s_AttributeType_L_s_AttributeType_N : s_AttributeType_L ≠ s_AttributeType_N) (ne_s_AttributeType_L_s_AttributeType_B : s_AttributeType_L ≠ s_AttributeType_B) (ne_s_AttributeType_BOOL_s_AttributeType_S : s_AttributeType_BOOL ≠ s_AttributeType_S) (ne_s_AttributeType_BOOL_s_AttributeType_N : s_AttributeType_BOOL ≠ s_AttributeType_N) (ne_s_AttributeType_BOOL_s_AttributeType_B : s_AttributeType_BOOL ≠ s_AttributeType_B) (ne_s_AttributeType_NULL_s_AttributeType_S : s_AttributeType_NULL ≠ s_AttributeType_S) (ne_s_AttributeType_NULL_s_AttributeType_N : s_AttributeType_NULL ≠ s_AttributeType_N) (ne_s_AttributeType_NULL_s_AttributeType_B : s_AttributeType_NULL ≠ s_AttributeType_B) :
    MetFree l x (head1 (Jvm.Cond.code x code maxLocals ret :: ws) room_1) (fun a U => a = #[(.int p1)] ∧ Z.Warmed39 U.vm ∧ U.heap = h0) (fun _ _ _ _ _ => True) (fun _ U o U' => ∃ v L, o = .returned v ∧ Qrm0 Z p1 s_AttributeType_S s_AttributeType_N s_AttributeType_B s_AttributeType_SS s_AttributeType_NS s_AttributeType_BS s_AttributeType_M s_AttributeType_L s_AttributeType_BOOL s_AttributeType_NULL h0 n0 v U'.heap L ∧ FrameEnd U o U' L room_1.cells room_1.slots) := by
  refine MetFree.of_bodySF (plainFor_of_name pn_0) hisR ?_
  intro p e s m args below meth c s₁ Bd hml0 hP hK
  obtain ⟨rfl, hZ, hh⟩ := hP
  have hx := Bd.exec
  have hby := Bd.bytes
  have hml : c.maxLocals = 4 := hml0
  have hown : s.vm.findClass "com/example/portunus/portunus/model/AttributeTypeIsScalarPinLaw" = some m.cls := findClass_of_methodNamed Bd.named
  have hnm := (name_of_methodNamed Bd.named Bd.method).1
  have X0 : Stand p l e room_1 s m #[(.int p1)] below meth c s₁ [] 0 0 := Stand.of_body Bd
  have e0 : s₁.heap = h0 := by rw [← hh, Bd.state]; rfl
  have N0 := Fr.nil n0
  have K0 : Keep h0 h0 [] := Keep.refl h0 _
  refine own_go (B := s₁.setTop (mkF m 0 #[.val (.int p1), .unset, .unset, .unset] [])) (fun t k => castTop (efrm0 m p1) k) ?_
  refine own_go (A := s₁.setTop (mkF m 0 #[.val (.int p1), .unset, .unset, .unset] [])) (B := s₁.setTop (mkF m 7 #[.val (.int p1), .unset, .unset, .unset] [(.int ((p1 &&& (2147483647 : Int32)) % (10 : Int32)))])) (fun t k => ?_) ?_
  · show Steps p.tables e below (s₁.setTop (mkF m 0 #[.val (.int p1), .unset, .unset, .unset] [])) _
    refine XS.iloadN X0.here hx rfl (hb hby at_0) rfl ?_
    show Steps p.tables e below (s₁.setTop (mkF m 1 #[.val (.int p1), .unset, .unset, .unset] [(.int p1)])) _
    refine X0.ldcInt hx hown (mvT hZ (hw _ (List.mem_of_getElem? (i := 0) rfl))) (g := (mkF m 1 #[.val (.int p1), .unset, .unset, .unset] [(.int p1)])) rfl (hb hby at_1) _ ?_
    show Steps p.tables e below (s₁.setTop (mkF m 3 #[.val (.int p1), .unset, .unset, .unset] [(.int (2147483647 : Int32)), (.int p1)])) _
    refine XS.iand X0.here hx rfl (hb hby at_3) rfl ?_
    show Steps p.tables e below (s₁.setTop (mkF m 4 #[.val (.int p1), .unset, .unset, .unset] [(.int (p1 &&& (2147483647 : Int32)))])) _
    refine XS.bipush X0.here hx rfl (hb hby at_4) ?_
    show Steps p.tables e below (s₁.setTop (mkF m 6 #[.val (.int p1), .unset, .unset, .unset] [(.int (10 : Int32)), (.int (p1 &&& (2147483647 : Int32)))])) _
    refine iremM X0 hx rfl (hb hby at_6) rfl (by decide) ?_
    exact k
  rcases own_rem _ with hk71 | hk71 | hk71 | hk71 | hk71 | hk71 | hk71 | hk71 | hk71 | hk71
  · rw [hk71]
    refine own_go (A := s₁.setTop (mkF m 7 #[.val (.int p1), .unset, .unset, .unset] [(.int (0 : Int32))])) (B := s₁.setTop (mkF m 9 #[.val (.int p1), .val (.int (0 : Int32)), .unset, .unset] [(.int (0 : Int32))])) (fun t k => ?_) ?_
    · show Steps p.tables e below (s₁.setTop (mkF m 7 #[.val (.int p1), .unset, .unset, .unset] [(.int (0 : Int32))])) _
      refine XS.istoreN X0.here hx rfl (hb hby at_7) rfl (l' := #[.val (.int p1), .val (.int (0 : Int32)), .unset, .unset]) rfl ?_
      show Steps p.tables e below (s₁.setTop (mkF m 8 #[.val (.int p1), .val (.int (0 : Int32)), .unset, .unset] [])) _
      refine XS.iloadN X0.here hx rfl (hb hby at_8) rfl ?_
      exact k
    obtain ⟨_, _, ⟨T72, L72, k72, n72⟩, -, X72, ⟨Lc72, hQ72, l72, y72, z72⟩, st72⟩ := Jvm.LawKit.callS X0 hx (y := (⟨"com/example/portunus/portunus/model/AttributeTypeIsScalarPinLaw", "pick", "(I)Lcom/example/portunus/portunus/model/AttributeType;"⟩ : MethodName)) hown (mvT hZ (hw _ (List.mem_of_getElem? (i := 1) rfl))) (mvT hZ (hw _ (List.mem_of_getElem? (i := 2) rfl))) (mvT hZ (hw _ (List.mem_of_getElem? (i := 3) rfl))) (mvT hZ (hw _ (List.mem_of_getElem? (i := 4) rfl))) (by decide) (backOf (W := 0) (rm1_0 l Z a0 hw [] s_AttributeType_S h0 n0 Z0 P0) hZ (hw _ (List.mem_of_getElem? (i := 4) rfl)) (hw _ (List.mem_of_getElem? (i := 3) rfl)) (by decide) (by decide)) (g := (mkF m 9 #[.val (.int p1), .val (.int (0 : Int32)), .unset, .unset] [(.int (0 : Int32))])) rfl (by rw [hml]; rfl) (argsL := [(.int (0 : Int32))]) (rest := []) (lenOf pd_0 rfl) rfl (by show 2 * 0 + _ ≤ _; exact Nat.le_of_eq rfl) (hb hby at_9) (fun _ _ => ⟨rfl, e0, (by decide : 0 + 0 ≤ _), (by decide : 0 + 0 ≤ _)⟩)
    dsimp only [Pt.U, Pt.locs, Pt.cells, Pt.slots] at X72 l72 y72 z72 st72 hQ72
    subst l72 y72 z72
    obtain ⟨rfl, Nq72, e72⟩ := hQ72
    have N72 := Fr.app N0 Nq72
    refine own_go (A := _) (B := T72.setTop (mkF m 12 #[.val (.int p1), .val (.int (0 : Int32)), .unset, .unset] [(.ref s_AttributeType_S)])) st72 ?_
    refine own_go (A := T72.setTop (mkF m 12 #[.val (.int p1), .val (.int (0 : Int32)), .unset, .unset] [(.ref s_AttributeType_S)])) (B := T72.setTop (mkF m 25 #[.val (.int p1), .val (.int (0 : Int32)), .val (.ref s_AttributeType_S), .val (.int (1 : Int32))] [(.ref s_AttributeType_S)])) (fun t k => ?_) ?_
    · show Steps p.tables e below (T72.setTop (mkF m 12 #[.val (.int p1), .val (.int (0 : Int32)), .unset, .unset] [(.ref s_AttributeType_S)])) _
      refine XS.astoreN X72.here hx rfl (hb hby at_12) rfl rfl (l' := #[.val (.int p1), .val (.int (0 : Int32)), .val (.ref s_AttributeType_S), .unset]) rfl ?_
      show Steps p.tables e below (T72.setTop (mkF m 13 #[.val (.int p1), .val (.int (0 : Int32)), .val (.ref s_AttributeType_S), .unset] [])) _
      refine XS.iloadN X72.here hx rfl (hb hby at_13) rfl ?_
      show Steps p.tables e below (T72.setTop (mkF m 14 #[.val (.int p1), .val (.int (0 : Int32)), .val (.ref s_AttributeType_S), .unset] [(.int (0 : Int32))])) _
      refine XS.iconst X72.here hx rfl (hb hby at_14) ?_
      show Steps p.tables e below (T72.setTop (mkF m 15 #[.val (.int p1), .val (.int (0 : Int32)), .val (.ref s_AttributeType_S), .unset] [(.int (3 : Int32)), (.int (0 : Int32))])) _
      refine XS.icmpNo X72.here hx rfl (hb hby at_15) rfl (tlt (by decide : ((0 : Int32) < (3 : Int32)))).2.1 ?_
      show Steps p.tables e below (T72.setTop (mkF m 18 #[.val (.int p1), .val (.int (0 : Int32)), .val (.ref s_AttributeType_S), .unset] [])) _
      refine XS.iconst X72.here hx rfl (hb hby at_18) ?_
      show Steps p.tables e below (T72.setTop (mkF m 19 #[.val (.int p1), .val (.int (0 : Int32)), .val (.ref s_AttributeType_S), .unset] [(.int (1 : Int32))])) _
      refine XS.goto X72.here hx rfl (pc0 := 19) (pc' := 23) rfl (hb hby at_19) (by decide) (by decide) ?_
      show Steps p.tables e below (T72.setTop (mkF m 23 #[.val (.int p1), .val (.int (0 : Int32)), .val (.ref s_AttributeType_S), .unset] [(.int (1 : Int32))])) _
      refine XS.istoreN X72.here hx rfl (hb hby at_23) rfl (l' := #[.val (.int p1), .val (.int (0 : Int32)), .val (.ref s_AttributeType_S), .val (.int (1 : Int32))]) rfl ?_
      show Steps p.tables e below (T72.setTop (mkF m 24 #[.val (.int p1), .val (.int (0 : Int32)), .val (.ref s_AttributeType_S), .val (.int (1 : Int32))] [])) _
      refine XS.aloadN X72.here hx rfl (hb hby at_24) rfl rfl ?_
      exact k
    obtain ⟨cq74, kq74, q74a, q74b, q74c⟩ := isOf hZ e72 P1
    obtain ⟨_, _, ⟨T74, L74, k74, n74⟩, -, X74, ⟨Lc74, hQ74, l74, y74, z74⟩, st74⟩ := X72.virtualBack hx (y := (⟨"com/example/portunus/portunus/model/AttributeType", "isScalar", "()Z"⟩ : MethodName)) (z := (⟨"com/example/portunus/portunus/model/AttributeType", "isScalar", "()Z"⟩ : MethodName)) hown (mvT hZ (hw _ (List.mem_of_getElem? (i := 8) rfl))) (mvT hZ (hw _ (List.mem_of_getElem? (i := 9) rfl))) (notFace_of_selects (args := #[]) (mvT hZ (hw _ (List.mem_of_getElem? (i := 11) rfl)))) (mvT hZ (hw _ (List.mem_of_getElem? (i := 11) rfl))) (mvT hZ (hw _ (List.mem_of_getElem? (i := 10) rfl))) (by decide) (backOf (W := 0) (rm2 l Z a0 hw [] s_AttributeType_S s_AttributeType_S s_AttributeType_N s_AttributeType_B h0 n0 Z0 P0 P2 P4) hZ (hw _ (List.mem_of_getElem? (i := 12) rfl)) (hw _ (List.mem_of_getElem? (i := 6) rfl)) (by decide) (by decide)) q74a q74c (g := (mkF m 25 #[.val (.int p1), .val (.int (0 : Int32)), .val (.ref s_AttributeType_S), .val (.int (1 : Int32))] [(.ref s_AttributeType_S)])) rfl (by rw [hml]; rfl) (Steps.refl _) (argsL := []) (rest := []) (lenOf pd_1 rfl) rfl (by show 2 * 0 + _ ≤ _; exact Nat.le_of_eq rfl) (hb hby at_25) (fun _ _ => ⟨rfl, e72, (by decide : 0 + 0 ≤ _), (by decide : 0 + 0 ≤ _)⟩)
    dsimp only [Pt.U, Pt.locs, Pt.cells, Pt.slots] at X74 l74 y74 z74 st74 hQ74
    subst l74 y74 z74
    obtain ⟨rfl, Nq74, e74⟩ := hQ74
    have N74 := Fr.app N72 Nq74
    refine own_go (A := _) (B := T74.setTop (mkF m 28 #[.val (.int p1), .val (.int (0 : Int32)), .val (.ref s_AttributeType_S), .val (.int (1 : Int32))] [(.int (frm2 s_AttributeType_S s_AttributeType_S s_AttributeType_N s_AttributeType_B))])) (fun t k => st74.trans k) ?_
    refine own_go (A := T74.setTop (mkF m 28 #[.val (.int p1), .val (.int (0 : Int32)), .val (.ref s_AttributeType_S), .val (.int (1 : Int32))] [(.int (frm2 s_AttributeType_S s_AttributeType_S s_AttributeType_N s_AttributeType_B))])) (B := T74.setTop (mkF m 29 #[.val (.int p1), .val (.int (0 : Int32)), .val (.ref s_AttributeType_S), .val (.int (1 : Int32))] [(.int (1 : Int32)), (.int (frm2 s_AttributeType_S s_AttributeType_S s_AttributeType_N s_AttributeType_B))])) (fun t k => ?_) ?_
    · show Steps p.tables e below (T74.setTop (mkF m 28 #[.val (.int p1), .val (.int (0 : Int32)), .val (.ref s_AttributeType_S), .val (.int (1 : Int32))] [(.int (frm2 s_AttributeType_S s_AttributeType_S s_AttributeType_N s_AttributeType_B))])) _
      refine XS.iloadN X74.here hx rfl (hb hby at_28) rfl ?_
      exact k
    have hc29_75 : ((frm2 s_AttributeType_S s_AttributeType_S s_AttributeType_N s_AttributeType_B) = (1 : Int32)) := by simp [frm2]
    refine own_go (A := T74.setTop (mkF m 29 #[.val (.int p1), .val (.int (0 : Int32)), .val (.ref s_AttributeType_S), .val (.int (1 : Int32))] [(.int (1 : Int32)), (.int (frm2 s_AttributeType_S s_AttributeType_S s_AttributeType_N s_AttributeType_B))])) (B := T74.setTop (mkF m 37 #[.val (.int p1), .val (.int (0 : Int32)), .val (.ref s_AttributeType_S), .val (.int (1 : Int32))] [(.int (1 : Int32))])) (fun t k => ?_) ?_
    · show Steps p.tables e below (T74.setTop (mkF m 29 #[.val (.int p1), .val (.int (0 : Int32)), .val (.ref s_AttributeType_S), .val (.int (1 : Int32))] [(.int (1 : Int32)), (.int (frm2 s_AttributeType_S s_AttributeType_S s_AttributeType_N s_AttributeType_B))])) _
      refine XS.icmpNo X74.here hx rfl (hb hby at_29) rfl (teq hc29_75).2 ?_
      show Steps p.tables e below (T74.setTop (mkF m 32 #[.val (.int p1), .val (.int (0 : Int32)), .val (.ref s_AttributeType_S), .val (.int (1 : Int32))] [])) _
      refine XS.iconst X74.here hx rfl (hb hby at_32) ?_
      show Steps p.tables e below (T74.setTop (mkF m 33 #[.val (.int p1), .val (.int (0 : Int32)), .val (.ref s_AttributeType_S), .val (.int (1 : Int32))] [(.int (1 : Int32))])) _
      refine XS.goto X74.here hx rfl (pc0 := 33) (pc' := 37) rfl (hb hby at_33) (by decide) (by decide) ?_
      exact k
    obtain ⟨fs, hr, hrun, hended, hW, hsame⟩ := X74.leave (v := some (.int (1 : Int32))) (fun h => by rw [Bd.returns] at h; cases h)
    refine ⟨_, _, ?_, hrun, hended, _, _, rfl, ?_, ⟨_, rfl⟩, hW, hsame.mono (by decide) (by decide)⟩
    · show Steps p.tables e below (T74.setTop (mkF m 37 #[.val (.int p1), .val (.int (0 : Int32)), .val (.ref s_AttributeType_S), .val (.int (1 : Int32))] [(.int (1 : Int32))])) _
      exact retN X74 hx (t := .boolean) Bd.returns (by simp) (hb hby at_37) hr
    · show Qrm0 Z p1 s_AttributeType_S s_AttributeType_N s_AttributeType_B s_AttributeType_SS s_AttributeType_NS s_AttributeType_BS s_AttributeType_M s_AttributeType_L s_AttributeType_BOOL s_AttributeType_NULL h0 n0 _ T74.heap _
      rw [e74]
      exact ⟨rfl, N74⟩
  · rw [hk71]
    refine own_go (A := s₁.setTop (mkF m 7 #[.val (.int p1), .unset, .unset, .unset] [(.int (1 : Int32))])) (B := s₁.setTop (mkF m 9 #[.val (.int p1), .val (.int (1 : Int32)), .unset, .unset] [(.int (1 : Int32))])) (fun t k => ?_) ?_
    · show Steps p.tables e below (s₁.setTop (mkF m 7 #[.val (.int p1), .unset, .unset, .unset] [(.int (1 : Int32))])) _
      refine XS.istoreN X0.here hx rfl (hb hby at_7) rfl (l' := #[.val (.int p1), .val (.int (1 : Int32)), .unset, .unset]) rfl ?_
      show Steps p.tables e below (s₁.setTop (mkF m 8 #[.val (.int p1), .val (.int (1 : Int32)), .unset, .unset] [])) _
      refine XS.iloadN X0.here hx rfl (hb hby at_8) rfl ?_
      exact k
    obtain ⟨_, _, ⟨T76, L76, k76, n76⟩, -, X76, ⟨Lc76, hQ76, l76, y76, z76⟩, st76⟩ := Jvm.LawKit.callS X0 hx (y := (⟨"com/example/portunus/portunus/model/AttributeTypeIsScalarPinLaw", "pick", "(I)Lcom/example/portunus/portunus/model/AttributeType;"⟩ : MethodName)) hown (mvT hZ (hw _ (List.mem_of_getElem? (i := 1) rfl))) (mvT hZ (hw _ (List.mem_of_getElem? (i := 2) rfl))) (mvT hZ (hw _ (List.mem_of_getElem? (i := 3) rfl))) (mvT hZ (hw _ (List.mem_of_getElem? (i := 4) rfl))) (by decide) (backOf (W := 0) (rm1_1 l Z a0 hw [] s_AttributeType_N h0 n0 Z0 P2) hZ (hw _ (List.mem_of_getElem? (i := 4) rfl)) (hw _ (List.mem_of_getElem? (i := 3) rfl)) (by decide) (by decide)) (g := (mkF m 9 #[.val (.int p1), .val (.int (1 : Int32)), .unset, .unset] [(.int (1 : Int32))])) rfl (by rw [hml]; rfl) (argsL := [(.int (1 : Int32))]) (rest := []) (lenOf pd_0 rfl) rfl (by show 2 * 0 + _ ≤ _; exact Nat.le_of_eq rfl) (hb hby at_9) (fun _ _ => ⟨rfl, e0, (by decide : 0 + 0 ≤ _), (by decide : 0 + 0 ≤ _)⟩)
    dsimp only [Pt.U, Pt.locs, Pt.cells, Pt.slots] at X76 l76 y76 z76 st76 hQ76
    subst l76 y76 z76
    obtain ⟨rfl, Nq76, e76⟩ := hQ76
    have N76 := Fr.app N0 Nq76
    refine own_go (A := _) (B := T76.setTop (mkF m 12 #[.val (.int p1), .val (.int (1 : Int32)), .unset, .unset] [(.ref s_AttributeType_N)])) st76 ?_
    refine own_go (A := T76.setTop (mkF m 12 #[.val (.int p1), .val (.int (1 : Int32)), .unset, .unset] [(.ref s_AttributeType_N)])) (B := T76.setTop (mkF m 25 #[.val (.int p1), .val (.int (1 : Int32)), .val (.ref s_AttributeType_N), .val (.int (1 : Int32))] [(.ref s_AttributeType_N)])) (fun t k => ?_) ?_
    · show Steps p.tables e below (T76.setTop (mkF m 12 #[.val (.int p1), .val (.int (1 : Int32)), .unset, .unset] [(.ref s_AttributeType_N)])) _
      refine XS.astoreN X76.here hx rfl (hb hby at_12) rfl rfl (l' := #[.val (.int p1), .val (.int (1 : Int32)), .val (.ref s_AttributeType_N), .unset]) rfl ?_
      show Steps p.tables e below (T76.setTop (mkF m 13 #[.val (.int p1), .val (.int (1 : Int32)), .val (.ref s_AttributeType_N), .unset] [])) _
      refine XS.iloadN X76.here hx rfl (hb hby at_13) rfl ?_
      show Steps p.tables e below (T76.setTop (mkF m 14 #[.val (.int p1), .val (.int (1 : Int32)), .val (.ref s_AttributeType_N), .unset] [(.int (1 : Int32))])) _
      refine XS.iconst X76.here hx rfl (hb hby at_14) ?_
      show Steps p.tables e below (T76.setTop (mkF m 15 #[.val (.int p1), .val (.int (1 : Int32)), .val (.ref s_AttributeType_N), .unset] [(.int (3 : Int32)), (.int (1 : Int32))])) _
      refine XS.icmpNo X76.here hx rfl (hb hby at_15) rfl (tlt (by decide : ((1 : Int32) < (3 : Int32)))).2.1 ?_
      show Steps p.tables e below (T76.setTop (mkF m 18 #[.val (.int p1), .val (.int (1 : Int32)), .val (.ref s_AttributeType_N), .unset] [])) _
      refine XS.iconst X76.here hx rfl (hb hby at_18) ?_
      show Steps p.tables e below (T76.setTop (mkF m 19 #[.val (.int p1), .val (.int (1 : Int32)), .val (.ref s_AttributeType_N), .unset] [(.int (1 : Int32))])) _
      refine XS.goto X76.here hx rfl (pc0 := 19) (pc' := 23) rfl (hb hby at_19) (by decide) (by decide) ?_
      show Steps p.tables e below (T76.setTop (mkF m 23 #[.val (.int p1), .val (.int (1 : Int32)), .val (.ref s_AttributeType_N), .unset] [(.int (1 : Int32))])) _
      refine XS.istoreN X76.here hx rfl (hb hby at_23) rfl (l' := #[.val (.int p1), .val (.int (1 : Int32)), .val (.ref s_AttributeType_N), .val (.int (1 : Int32))]) rfl ?_
      show Steps p.tables e below (T76.setTop (mkF m 24 #[.val (.int p1), .val (.int (1 : Int32)), .val (.ref s_AttributeType_N), .val (.int (1 : Int32))] [])) _
      refine XS.aloadN X76.here hx rfl (hb hby at_24) rfl rfl ?_
      exact k
    obtain ⟨cq78, kq78, q78a, q78b, q78c⟩ := isOf hZ e76 P3
    obtain ⟨_, _, ⟨T78, L78, k78, n78⟩, -, X78, ⟨Lc78, hQ78, l78, y78, z78⟩, st78⟩ := X76.virtualBack hx (y := (⟨"com/example/portunus/portunus/model/AttributeType", "isScalar", "()Z"⟩ : MethodName)) (z := (⟨"com/example/portunus/portunus/model/AttributeType", "isScalar", "()Z"⟩ : MethodName)) hown (mvT hZ (hw _ (List.mem_of_getElem? (i := 8) rfl))) (mvT hZ (hw _ (List.mem_of_getElem? (i := 9) rfl))) (notFace_of_selects (args := #[]) (mvT hZ (hw _ (List.mem_of_getElem? (i := 11) rfl)))) (mvT hZ (hw _ (List.mem_of_getElem? (i := 11) rfl))) (mvT hZ (hw _ (List.mem_of_getElem? (i := 10) rfl))) (by decide) (backOf (W := 0) (rm2 l Z a0 hw [] s_AttributeType_N s_AttributeType_S s_AttributeType_N s_AttributeType_B h0 n0 Z0 P0 P2 P4) hZ (hw _ (List.mem_of_getElem? (i := 12) rfl)) (hw _ (List.mem_of_getElem? (i := 6) rfl)) (by decide) (by decide)) q78a q78c (g := (mkF m 25 #[.val (.int p1), .val (.int (1 : Int32)), .val (.ref s_AttributeType_N), .val (.int (1 : Int32))] [(.ref s_AttributeType_N)])) rfl (by rw [hml]; rfl) (Steps.refl _) (argsL := []) (rest := []) (lenOf pd_1 rfl) rfl (by show 2 * 0 + _ ≤ _; exact Nat.le_of_eq rfl) (hb hby at_25) (fun _ _ => ⟨rfl, e76, (by decide : 0 + 0 ≤ _), (by decide : 0 + 0 ≤ _)⟩)
    dsimp only [Pt.U, Pt.locs, Pt.cells, Pt.slots] at X78 l78 y78 z78 st78 hQ78
    subst l78 y78 z78
    obtain ⟨rfl, Nq78, e78⟩ := hQ78
    have N78 := Fr.app N76 Nq78
    refine own_go (A := _) (B := T78.setTop (mkF m 28 #[.val (.int p1), .val (.int (1 : Int32)), .val (.ref s_AttributeType_N), .val (.int (1 : Int32))] [(.int (frm2 s_AttributeType_N s_AttributeType_S s_AttributeType_N s_AttributeType_B))])) (fun t k => st78.trans k) ?_
    refine own_go (A := T78.setTop (mkF m 28 #[.val (.int p1), .val (.int (1 : Int32)), .val (.ref s_AttributeType_N), .val (.int (1 : Int32))] [(.int (frm2 s_AttributeType_N s_AttributeType_S s_AttributeType_N s_AttributeType_B))])) (B := T78.setTop (mkF m 29 #[.val (.int p1), .val (.int (1 : Int32)), .val (.ref s_AttributeType_N), .val (.int (1 : Int32))] [(.int (1 : Int32)), (.int (frm2 s_AttributeType_N s_AttributeType_S s_AttributeType_N s_AttributeType_B))])) (fun t k => ?_) ?_
    · show Steps p.tables e below (T78.setTop (mkF m 28 #[.val (.int p1), .val (.int (1 : Int32)), .val (.ref s_AttributeType_N), .val (.int (1 : Int32))] [(.int (frm2 s_AttributeType_N s_AttributeType_S s_AttributeType_N s_AttributeType_B))])) _
      refine XS.iloadN X78.here hx rfl (hb hby at_28) rfl ?_
      exact k
    have hc29_79 : ((frm2 s_AttributeType_N s_AttributeType_S s_AttributeType_N s_AttributeType_B) = (1 : Int32)) := by simp [frm2, ne_s_AttributeType_N_s_AttributeType_S]
    refine own_go (A := T78.setTop (mkF m 29 #[.val (.int p1), .val (.int (1 : Int32)), .val (.ref s_AttributeType_N), .val (.int (1 : Int32))] [(.int (1 : Int32)), (.int (frm2 s_AttributeType_N s_AttributeType_S s_AttributeType_N s_AttributeType_B))])) (B := T78.setTop (mkF m 37 #[.val (.int p1), .val (.int (1 : Int32)), .val (.ref s_AttributeType_N), .val (.int (1 : Int32))] [(.int (1 : Int32))])) (fun t k => ?_) ?_
    · show Steps p.tables e below (T78.setTop (mkF m 29 #[.val (.int p1), .val (.int (1 : Int32)), .val (.ref s_AttributeType_N), .val (.int (1 : Int32))] [(.int (1 : Int32)), (.int (frm2 s_AttributeType_N s_AttributeType_S s_AttributeType_N s_AttributeType_B))])) _
      refine XS.icmpNo X78.here hx rfl (hb hby at_29) rfl (teq hc29_79).2 ?_
      show Steps p.tables e below (T78.setTop (mkF m 32 #[.val (.int p1), .val (.int (1 : Int32)), .val (.ref s_AttributeType_N), .val (.int (1 : Int32))] [])) _
      refine XS.iconst X78.here hx rfl (hb hby at_32) ?_
      show Steps p.tables e below (T78.setTop (mkF m 33 #[.val (.int p1), .val (.int (1 : Int32)), .val (.ref s_AttributeType_N), .val (.int (1 : Int32))] [(.int (1 : Int32))])) _
      refine XS.goto X78.here hx rfl (pc0 := 33) (pc' := 37) rfl (hb hby at_33) (by decide) (by decide) ?_
      exact k
    obtain ⟨fs, hr, hrun, hended, hW, hsame⟩ := X78.leave (v := some (.int (1 : Int32))) (fun h => by rw [Bd.returns] at h; cases h)
    refine ⟨_, _, ?_, hrun, hended, _, _, rfl, ?_, ⟨_, rfl⟩, hW, hsame.mono (by decide) (by decide)⟩
    · show Steps p.tables e below (T78.setTop (mkF m 37 #[.val (.int p1), .val (.int (1 : Int32)), .val (.ref s_AttributeType_N), .val (.int (1 : Int32))] [(.int (1 : Int32))])) _
      exact retN X78 hx (t := .boolean) Bd.returns (by simp) (hb hby at_37) hr
    · show Qrm0 Z p1 s_AttributeType_S s_AttributeType_N s_AttributeType_B s_AttributeType_SS s_AttributeType_NS s_AttributeType_BS s_AttributeType_M s_AttributeType_L s_AttributeType_BOOL s_AttributeType_NULL h0 n0 _ T78.heap _
      rw [e78]
      exact ⟨rfl, N78⟩
  · rw [hk71]
    refine own_go (A := s₁.setTop (mkF m 7 #[.val (.int p1), .unset, .unset, .unset] [(.int (2 : Int32))])) (B := s₁.setTop (mkF m 9 #[.val (.int p1), .val (.int (2 : Int32)), .unset, .unset] [(.int (2 : Int32))])) (fun t k => ?_) ?_
    · show Steps p.tables e below (s₁.setTop (mkF m 7 #[.val (.int p1), .unset, .unset, .unset] [(.int (2 : Int32))])) _
      refine XS.istoreN X0.here hx rfl (hb hby at_7) rfl (l' := #[.val (.int p1), .val (.int (2 : Int32)), .unset, .unset]) rfl ?_
      show Steps p.tables e below (s₁.setTop (mkF m 8 #[.val (.int p1), .val (.int (2 : Int32)), .unset, .unset] [])) _
      refine XS.iloadN X0.here hx rfl (hb hby at_8) rfl ?_
      exact k
    obtain ⟨_, _, ⟨T80, L80, k80, n80⟩, -, X80, ⟨Lc80, hQ80, l80, y80, z80⟩, st80⟩ := Jvm.LawKit.callS X0 hx (y := (⟨"com/example/portunus/portunus/model/AttributeTypeIsScalarPinLaw", "pick", "(I)Lcom/example/portunus/portunus/model/AttributeType;"⟩ : MethodName)) hown (mvT hZ (hw _ (List.mem_of_getElem? (i := 1) rfl))) (mvT hZ (hw _ (List.mem_of_getElem? (i := 2) rfl))) (mvT hZ (hw _ (List.mem_of_getElem? (i := 3) rfl))) (mvT hZ (hw _ (List.mem_of_getElem? (i := 4) rfl))) (by decide) (backOf (W := 0) (rm1_2 l Z a0 hw [] s_AttributeType_B h0 n0 Z0 P4) hZ (hw _ (List.mem_of_getElem? (i := 4) rfl)) (hw _ (List.mem_of_getElem? (i := 3) rfl)) (by decide) (by decide)) (g := (mkF m 9 #[.val (.int p1), .val (.int (2 : Int32)), .unset, .unset] [(.int (2 : Int32))])) rfl (by rw [hml]; rfl) (argsL := [(.int (2 : Int32))]) (rest := []) (lenOf pd_0 rfl) rfl (by show 2 * 0 + _ ≤ _; exact Nat.le_of_eq rfl) (hb hby at_9) (fun _ _ => ⟨rfl, e0, (by decide : 0 + 0 ≤ _), (by decide : 0 + 0 ≤ _)⟩)
    dsimp only [Pt.U, Pt.locs, Pt.cells, Pt.slots] at X80 l80 y80 z80 st80 hQ80
    subst l80 y80 z80
    obtain ⟨rfl, Nq80, e80⟩ := hQ80
    have N80 := Fr.app N0 Nq80
    refine own_go (A := _) (B := T80.setTop (mkF m 12 #[.val (.int p1), .val (.int (2 : Int32)), .unset, .unset] [(.ref s_AttributeType_B)])) st80 ?_
    refine own_go (A := T80.setTop (mkF m 12 #[.val (.int p1), .val (.int (2 : Int32)), .unset, .unset] [(.ref s_AttributeType_B)])) (B := T80.setTop (mkF m 25 #[.val (.int p1), .val (.int (2 : Int32)), .val (.ref s_AttributeType_B), .val (.int (1 : Int32))] [(.ref s_AttributeType_B)])) (fun t k => ?_) ?_
    · show Steps p.tables e below (T80.setTop (mkF m 12 #[.val (.int p1), .val (.int (2 : Int32)), .unset, .unset] [(.ref s_AttributeType_B)])) _
      refine XS.astoreN X80.here hx rfl (hb hby at_12) rfl rfl (l' := #[.val (.int p1), .val (.int (2 : Int32)), .val (.ref s_AttributeType_B), .unset]) rfl ?_
      show Steps p.tables e below (T80.setTop (mkF m 13 #[.val (.int p1), .val (.int (2 : Int32)), .val (.ref s_AttributeType_B), .unset] [])) _
      refine XS.iloadN X80.here hx rfl (hb hby at_13) rfl ?_
      show Steps p.tables e below (T80.setTop (mkF m 14 #[.val (.int p1), .val (.int (2 : Int32)), .val (.ref s_AttributeType_B), .unset] [(.int (2 : Int32))])) _
      refine XS.iconst X80.here hx rfl (hb hby at_14) ?_
      show Steps p.tables e below (T80.setTop (mkF m 15 #[.val (.int p1), .val (.int (2 : Int32)), .val (.ref s_AttributeType_B), .unset] [(.int (3 : Int32)), (.int (2 : Int32))])) _
      refine XS.icmpNo X80.here hx rfl (hb hby at_15) rfl (tlt (by decide : ((2 : Int32) < (3 : Int32)))).2.1 ?_
      show Steps p.tables e below (T80.setTop (mkF m 18 #[.val (.int p1), .val (.int (2 : Int32)), .val (.ref s_AttributeType_B), .unset] [])) _
      refine XS.iconst X80.here hx rfl (hb hby at_18) ?_
      show Steps p.tables e below (T80.setTop (mkF m 19 #[.val (.int p1), .val (.int (2 : Int32)), .val (.ref s_AttributeType_B), .unset] [(.int (1 : Int32))])) _
      refine XS.goto X80.here hx rfl (pc0 := 19) (pc' := 23) rfl (hb hby at_19) (by decide) (by decide) ?_
      show Steps p.tables e below (T80.setTop (mkF m 23 #[.val (.int p1), .val (.int (2 : Int32)), .val (.ref s_AttributeType_B), .unset] [(.int (1 : Int32))])) _
      refine XS.istoreN X80.here hx rfl (hb hby at_23) rfl (l' := #[.val (.int p1), .val (.int (2 : Int32)), .val (.ref s_AttributeType_B), .val (.int (1 : Int32))]) rfl ?_
      show Steps p.tables e below (T80.setTop (mkF m 24 #[.val (.int p1), .val (.int (2 : Int32)), .val (.ref s_AttributeType_B), .val (.int (1 : Int32))] [])) _
      refine XS.aloadN X80.here hx rfl (hb hby at_24) rfl rfl ?_
      exact k
    obtain ⟨cq82, kq82, q82a, q82b, q82c⟩ := isOf hZ e80 P5
    obtain ⟨_, _, ⟨T82, L82, k82, n82⟩, -, X82, ⟨Lc82, hQ82, l82, y82, z82⟩, st82⟩ := X80.virtualBack hx (y := (⟨"com/example/portunus/portunus/model/AttributeType", "isScalar", "()Z"⟩ : MethodName)) (z := (⟨"com/example/portunus/portunus/model/AttributeType", "isScalar", "()Z"⟩ : MethodName)) hown (mvT hZ (hw _ (List.mem_of_getElem? (i := 8) rfl))) (mvT hZ (hw _ (List.mem_of_getElem? (i := 9) rfl))) (notFace_of_selects (args := #[]) (mvT hZ (hw _ (List.mem_of_getElem? (i := 11) rfl)))) (mvT hZ (hw _ (List.mem_of_getElem? (i := 11) rfl))) (mvT hZ (hw _ (List.mem_of_getElem? (i := 10) rfl))) (by decide) (backOf (W := 0) (rm2 l Z a0 hw [] s_AttributeType_B s_AttributeType_S s_AttributeType_N s_AttributeType_B h0 n0 Z0 P0 P2 P4) hZ (hw _ (List.mem_of_getElem? (i := 12) rfl)) (hw _ (List.mem_of_getElem? (i := 6) rfl)) (by decide) (by decide)) q82a q82c (g := (mkF m 25 #[.val (.int p1), .val (.int (2 : Int32)), .val (.ref s_AttributeType_B), .val (.int (1 : Int32))] [(.ref s_AttributeType_B)])) rfl (by rw [hml]; rfl) (Steps.refl _) (argsL := []) (rest := []) (lenOf pd_1 rfl) rfl (by show 2 * 0 + _ ≤ _; exact Nat.le_of_eq rfl) (hb hby at_25) (fun _ _ => ⟨rfl, e80, (by decide : 0 + 0 ≤ _), (by decide : 0 + 0 ≤ _)⟩)
    dsimp only [Pt.U, Pt.locs, Pt.cells, Pt.slots] at X82 l82 y82 z82 st82 hQ82
    subst l82 y82 z82
    obtain ⟨rfl, Nq82, e82⟩ := hQ82
    have N82 := Fr.app N80 Nq82
    refine own_go (A := _) (B := T82.setTop (mkF m 28 #[.val (.int p1), .val (.int (2 : Int32)), .val (.ref s_AttributeType_B), .val (.int (1 : Int32))] [(.int (frm2 s_AttributeType_B s_AttributeType_S s_AttributeType_N s_AttributeType_B))])) (fun t k => st82.trans k) ?_
    refine own_go (A := T82.setTop (mkF m 28 #[.val (.int p1), .val (.int (2 : Int32)), .val (.ref s_AttributeType_B), .val (.int (1 : Int32))] [(.int (frm2 s_AttributeType_B s_AttributeType_S s_AttributeType_N s_AttributeType_B))])) (B := T82.setTop (mkF m 29 #[.val (.int p1), .val (.int (2 : Int32)), .val (.ref s_AttributeType_B), .val (.int (1 : Int32))] [(.int (1 : Int32)), (.int (frm2 s_AttributeType_B s_AttributeType_S s_AttributeType_N s_AttributeType_B))])) (fun t k => ?_) ?_
    · show Steps p.tables e below (T82.setTop (mkF m 28 #[.val (.int p1), .val (.int (2 : Int32)), .val (.ref s_AttributeType_B), .val (.int (1 : Int32))] [(.int (frm2 s_AttributeType_B s_AttributeType_S s_AttributeType_N s_AttributeType_B))])) _
      refine XS.iloadN X82.here hx rfl (hb hby at_28) rfl ?_
      exact k
    have hc29_83 : ((frm2 s_AttributeType_B s_AttributeType_S s_AttributeType_N s_AttributeType_B) = (1 : Int32)) := by simp [frm2, ne_s_AttributeType_B_s_AttributeType_S, ne_s_AttributeType_B_s_AttributeType_N]
    refine own_go (A := T82.setTop (mkF m 29 #[.val (.int p1), .val (.int (2 : Int32)), .val (.ref s_AttributeType_B), .val (.int (1 : Int32))] [(.int (1 : Int32)), (.int (frm2 s_AttributeType_B s_AttributeType_S s_AttributeType_N s_AttributeType_B))])) (B := T82.setTop (mkF m 37 #[.val (.int p1), .val (.int (2 : Int32)), .val (.ref s_AttributeType_B), .val (.int (1 : Int32))] [(.int (1 : Int32))])) (fun t k => ?_) ?_
    · show Steps p.tables e below (T82.setTop (mkF m 29 #[.val (.int p1), .val (.int (2 : Int32)), .val (.ref s_AttributeType_B), .val (.int (1 : Int32))] [(.int (1 : Int32)), (.int (frm2 s_AttributeType_B s_AttributeType_S s_AttributeType_N s_AttributeType_B))])) _
      refine XS.icmpNo X82.here hx rfl (hb hby at_29) rfl (teq hc29_83).2 ?_
      show Steps p.tables e below (T82.setTop (mkF m 32 #[.val (.int p1), .val (.int (2 : Int32)), .val (.ref s_AttributeType_B), .val (.int (1 : Int32))] [])) _
      refine XS.iconst X82.here hx rfl (hb hby at_32) ?_
      show Steps p.tables e below (T82.setTop (mkF m 33 #[.val (.int p1), .val (.int (2 : Int32)), .val (.ref s_AttributeType_B), .val (.int (1 : Int32))] [(.int (1 : Int32))])) _
      refine XS.goto X82.here hx rfl (pc0 := 33) (pc' := 37) rfl (hb hby at_33) (by decide) (by decide) ?_
      exact k
    obtain ⟨fs, hr, hrun, hended, hW, hsame⟩ := X82.leave (v := some (.int (1 : Int32))) (fun h => by rw [Bd.returns] at h; cases h)
    refine ⟨_, _, ?_, hrun, hended, _, _, rfl, ?_, ⟨_, rfl⟩, hW, hsame.mono (by decide) (by decide)⟩
    · show Steps p.tables e below (T82.setTop (mkF m 37 #[.val (.int p1), .val (.int (2 : Int32)), .val (.ref s_AttributeType_B), .val (.int (1 : Int32))] [(.int (1 : Int32))])) _
      exact retN X82 hx (t := .boolean) Bd.returns (by simp) (hb hby at_37) hr
    · show Qrm0 Z p1 s_AttributeType_S s_AttributeType_N s_AttributeType_B s_AttributeType_SS s_AttributeType_NS s_AttributeType_BS s_AttributeType_M s_AttributeType_L s_AttributeType_BOOL s_AttributeType_NULL h0 n0 _ T82.heap _
      rw [e82]
      exact ⟨rfl, N82⟩
  · rw [hk71]
    refine own_go (A := s₁.setTop (mkF m 7 #[.val (.int p1), .unset, .unset, .unset] [(.int (3 : Int32))])) (B := s₁.setTop (mkF m 9 #[.val (.int p1), .val (.int (3 : Int32)), .unset, .unset] [(.int (3 : Int32))])) (fun t k => ?_) ?_
    · show Steps p.tables e below (s₁.setTop (mkF m 7 #[.val (.int p1), .unset, .unset, .unset] [(.int (3 : Int32))])) _
      refine XS.istoreN X0.here hx rfl (hb hby at_7) rfl (l' := #[.val (.int p1), .val (.int (3 : Int32)), .unset, .unset]) rfl ?_
      show Steps p.tables e below (s₁.setTop (mkF m 8 #[.val (.int p1), .val (.int (3 : Int32)), .unset, .unset] [])) _
      refine XS.iloadN X0.here hx rfl (hb hby at_8) rfl ?_
      exact k
    obtain ⟨_, _, ⟨T84, L84, k84, n84⟩, -, X84, ⟨Lc84, hQ84, l84, y84, z84⟩, st84⟩ := Jvm.LawKit.callS X0 hx (y := (⟨"com/example/portunus/portunus/model/AttributeTypeIsScalarPinLaw", "pick", "(I)Lcom/example/portunus/portunus/model/AttributeType;"⟩ : MethodName)) hown (mvT hZ (hw _ (List.mem_of_getElem? (i := 1) rfl))) (mvT hZ (hw _ (List.mem_of_getElem? (i := 2) rfl))) (mvT hZ (hw _ (List.mem_of_getElem? (i := 3) rfl))) (mvT hZ (hw _ (List.mem_of_getElem? (i := 4) rfl))) (by decide) (backOf (W := 0) (rm1_3 l Z a0 hw [] s_AttributeType_SS h0 n0 Z0 P6) hZ (hw _ (List.mem_of_getElem? (i := 4) rfl)) (hw _ (List.mem_of_getElem? (i := 3) rfl)) (by decide) (by decide)) (g := (mkF m 9 #[.val (.int p1), .val (.int (3 : Int32)), .unset, .unset] [(.int (3 : Int32))])) rfl (by rw [hml]; rfl) (argsL := [(.int (3 : Int32))]) (rest := []) (lenOf pd_0 rfl) rfl (by show 2 * 0 + _ ≤ _; exact Nat.le_of_eq rfl) (hb hby at_9) (fun _ _ => ⟨rfl, e0, (by decide : 0 + 0 ≤ _), (by decide : 0 + 0 ≤ _)⟩)
    dsimp only [Pt.U, Pt.locs, Pt.cells, Pt.slots] at X84 l84 y84 z84 st84 hQ84
    subst l84 y84 z84
    obtain ⟨rfl, Nq84, e84⟩ := hQ84
    have N84 := Fr.app N0 Nq84
    refine own_go (A := _) (B := T84.setTop (mkF m 12 #[.val (.int p1), .val (.int (3 : Int32)), .unset, .unset] [(.ref s_AttributeType_SS)])) st84 ?_
    refine own_go (A := T84.setTop (mkF m 12 #[.val (.int p1), .val (.int (3 : Int32)), .unset, .unset] [(.ref s_AttributeType_SS)])) (B := T84.setTop (mkF m 25 #[.val (.int p1), .val (.int (3 : Int32)), .val (.ref s_AttributeType_SS), .val (.int (0 : Int32))] [(.ref s_AttributeType_SS)])) (fun t k => ?_) ?_
    · show Steps p.tables e below (T84.setTop (mkF m 12 #[.val (.int p1), .val (.int (3 : Int32)), .unset, .unset] [(.ref s_AttributeType_SS)])) _
      refine XS.astoreN X84.here hx rfl (hb hby at_12) rfl rfl (l' := #[.val (.int p1), .val (.int (3 : Int32)), .val (.ref s_AttributeType_SS), .unset]) rfl ?_
      show Steps p.tables e below (T84.setTop (mkF m 13 #[.val (.int p1), .val (.int (3 : Int32)), .val (.ref s_AttributeType_SS), .unset] [])) _
      refine XS.iloadN X84.here hx rfl (hb hby at_13) rfl ?_
      show Steps p.tables e below (T84.setTop (mkF m 14 #[.val (.int p1), .val (.int (3 : Int32)), .val (.ref s_AttributeType_SS), .unset] [(.int (3 : Int32))])) _
      refine XS.iconst X84.here hx rfl (hb hby at_14) ?_
      show Steps p.tables e below (T84.setTop (mkF m 15 #[.val (.int p1), .val (.int (3 : Int32)), .val (.ref s_AttributeType_SS), .unset] [(.int (3 : Int32)), (.int (3 : Int32))])) _
      refine XS.icmpYes X84.here hx rfl (pc0 := 15) (pc' := 22) rfl (hb hby at_15) rfl (flt Int32.lt_irrefl).2.1 (by decide) (by decide) ?_
      show Steps p.tables e below (T84.setTop (mkF m 22 #[.val (.int p1), .val (.int (3 : Int32)), .val (.ref s_AttributeType_SS), .unset] [])) _
      refine XS.iconst X84.here hx rfl (hb hby at_22) ?_
      show Steps p.tables e below (T84.setTop (mkF m 23 #[.val (.int p1), .val (.int (3 : Int32)), .val (.ref s_AttributeType_SS), .unset] [(.int (0 : Int32))])) _
      refine XS.istoreN X84.here hx rfl (hb hby at_23) rfl (l' := #[.val (.int p1), .val (.int (3 : Int32)), .val (.ref s_AttributeType_SS), .val (.int (0 : Int32))]) rfl ?_
      show Steps p.tables e below (T84.setTop (mkF m 24 #[.val (.int p1), .val (.int (3 : Int32)), .val (.ref s_AttributeType_SS), .val (.int (0 : Int32))] [])) _
      refine XS.aloadN X84.here hx rfl (hb hby at_24) rfl rfl ?_
      exact k
    obtain ⟨cq86, kq86, q86a, q86b, q86c⟩ := isOf hZ e84 P7
    obtain ⟨_, _, ⟨T86, L86, k86, n86⟩, -, X86, ⟨Lc86, hQ86, l86, y86, z86⟩, st86⟩ := X84.virtualBack hx (y := (⟨"com/example/portunus/portunus/model/AttributeType", "isScalar", "()Z"⟩ : MethodName)) (z := (⟨"com/example/portunus/portunus/model/AttributeType", "isScalar", "()Z"⟩ : MethodName)) hown (mvT hZ (hw _ (List.mem_of_getElem? (i := 8) rfl))) (mvT hZ (hw _ (List.mem_of_getElem? (i := 9) rfl))) (notFace_of_selects (args := #[]) (mvT hZ (hw _ (List.mem_of_getElem? (i := 11) rfl)))) (mvT hZ (hw _ (List.mem_of_getElem? (i := 11) rfl))) (mvT hZ (hw _ (List.mem_of_getElem? (i := 10) rfl))) (by decide) (backOf (W := 0) (rm2 l Z a0 hw [] s_AttributeType_SS s_AttributeType_S s_AttributeType_N s_AttributeType_B h0 n0 Z0 P0 P2 P4) hZ (hw _ (List.mem_of_getElem? (i := 12) rfl)) (hw _ (List.mem_of_getElem? (i := 6) rfl)) (by decide) (by decide)) q86a q86c (g := (mkF m 25 #[.val (.int p1), .val (.int (3 : Int32)), .val (.ref s_AttributeType_SS), .val (.int (0 : Int32))] [(.ref s_AttributeType_SS)])) rfl (by rw [hml]; rfl) (Steps.refl _) (argsL := []) (rest := []) (lenOf pd_1 rfl) rfl (by show 2 * 0 + _ ≤ _; exact Nat.le_of_eq rfl) (hb hby at_25) (fun _ _ => ⟨rfl, e84, (by decide : 0 + 0 ≤ _), (by decide : 0 + 0 ≤ _)⟩)
    dsimp only [Pt.U, Pt.locs, Pt.cells, Pt.slots] at X86 l86 y86 z86 st86 hQ86
    subst l86 y86 z86
    obtain ⟨rfl, Nq86, e86⟩ := hQ86
    have N86 := Fr.app N84 Nq86
    refine own_go (A := _) (B := T86.setTop (mkF m 28 #[.val (.int p1), .val (.int (3 : Int32)), .val (.ref s_AttributeType_SS), .val (.int (0 : Int32))] [(.int (frm2 s_AttributeType_SS s_AttributeType_S s_AttributeType_N s_AttributeType_B))])) (fun t k => st86.trans k) ?_
    refine own_go (A := T86.setTop (mkF m 28 #[.val (.int p1), .val (.int (3 : Int32)), .val (.ref s_AttributeType_SS), .val (.int (0 : Int32))] [(.int (frm2 s_AttributeType_SS s_AttributeType_S s_AttributeType_N s_AttributeType_B))])) (B := T86.setTop (mkF m 29 #[.val (.int p1), .val (.int (3 : Int32)), .val (.ref s_AttributeType_SS), .val (.int (0 : Int32))] [(.int (0 : Int32)), (.int (frm2 s_AttributeType_SS s_AttributeType_S s_AttributeType_N s_AttributeType_B))])) (fun t k => ?_) ?_
    · show Steps p.tables e below (T86.setTop (mkF m 28 #[.val (.int p1), .val (.int (3 : Int32)), .val (.ref s_AttributeType_SS), .val (.int (0 : Int32))] [(.int (frm2 s_AttributeType_SS s_AttributeType_S s_AttributeType_N s_AttributeType_B))])) _
      refine XS.iloadN X86.here hx rfl (hb hby at_28) rfl ?_
      exact k
    have hc29_87 : ((frm2 s_AttributeType_SS s_AttributeType_S s_AttributeType_N s_AttributeType_B) = (0 : Int32)) := by simp [frm2, ne_s_AttributeType_SS_s_AttributeType_S, ne_s_AttributeType_SS_s_AttributeType_N, ne_s_AttributeType_SS_s_AttributeType_B]
    refine own_go (A := T86.setTop (mkF m 29 #[.val (.int p1), .val (.int (3 : Int32)), .val (.ref s_AttributeType_SS), .val (.int (0 : Int32))] [(.int (0 : Int32)), (.int (frm2 s_AttributeType_SS s_AttributeType_S s_AttributeType_N s_AttributeType_B))])) (B := T86.setTop (mkF m 37 #[.val (.int p1), .val (.int (3 : Int32)), .val (.ref s_AttributeType_SS), .val (.int (0 : Int32))] [(.int (1 : Int32))])) (fun t k => ?_) ?_
    · show Steps p.tables e below (T86.setTop (mkF m 29 #[.val (.int p1), .val (.int (3 : Int32)), .val (.ref s_AttributeType_SS), .val (.int (0 : Int32))] [(.int (0 : Int32)), (.int (frm2 s_AttributeType_SS s_AttributeType_S s_AttributeType_N s_AttributeType_B))])) _
      refine XS.icmpNo X86.here hx rfl (hb hby at_29) rfl (teq hc29_87).2 ?_
      show Steps p.tables e below (T86.setTop (mkF m 32 #[.val (.int p1), .val (.int (3 : Int32)), .val (.ref s_AttributeType_SS), .val (.int (0 : Int32))] [])) _
      refine XS.iconst X86.here hx rfl (hb hby at_32) ?_
      show Steps p.tables e below (T86.setTop (mkF m 33 #[.val (.int p1), .val (.int (3 : Int32)), .val (.ref s_AttributeType_SS), .val (.int (0 : Int32))] [(.int (1 : Int32))])) _
      refine XS.goto X86.here hx rfl (pc0 := 33) (pc' := 37) rfl (hb hby at_33) (by decide) (by decide) ?_
      exact k
    obtain ⟨fs, hr, hrun, hended, hW, hsame⟩ := X86.leave (v := some (.int (1 : Int32))) (fun h => by rw [Bd.returns] at h; cases h)
    refine ⟨_, _, ?_, hrun, hended, _, _, rfl, ?_, ⟨_, rfl⟩, hW, hsame.mono (by decide) (by decide)⟩
    · show Steps p.tables e below (T86.setTop (mkF m 37 #[.val (.int p1), .val (.int (3 : Int32)), .val (.ref s_AttributeType_SS), .val (.int (0 : Int32))] [(.int (1 : Int32))])) _
      exact retN X86 hx (t := .boolean) Bd.returns (by simp) (hb hby at_37) hr
    · show Qrm0 Z p1 s_AttributeType_S s_AttributeType_N s_AttributeType_B s_AttributeType_SS s_AttributeType_NS s_AttributeType_BS s_AttributeType_M s_AttributeType_L s_AttributeType_BOOL s_AttributeType_NULL h0 n0 _ T86.heap _
      rw [e86]
      exact ⟨rfl, N86⟩
  · rw [hk71]
    refine own_go (A := s₁.setTop (mkF m 7 #[.val (.int p1), .unset, .unset, .unset] [(.int (4 : Int32))])) (B := s₁.setTop (mkF m 9 #[.val (.int p1), .val (.int (4 : Int32)), .unset, .unset] [(.int (4 : Int32))])) (fun t k => ?_) ?_
    · show Steps p.tables e below (s₁.setTop (mkF m 7 #[.val (.int p1), .unset, .unset, .unset] [(.int (4 : Int32))])) _
      refine XS.istoreN X0.here hx rfl (hb hby at_7) rfl (l' := #[.val (.int p1), .val (.int (4 : Int32)), .unset, .unset]) rfl ?_
      show Steps p.tables e below (s₁.setTop (mkF m 8 #[.val (.int p1), .val (.int (4 : Int32)), .unset, .unset] [])) _
      refine XS.iloadN X0.here hx rfl (hb hby at_8) rfl ?_
      exact k
    obtain ⟨_, _, ⟨T88, L88, k88, n88⟩, -, X88, ⟨Lc88, hQ88, l88, y88, z88⟩, st88⟩ := Jvm.LawKit.callS X0 hx (y := (⟨"com/example/portunus/portunus/model/AttributeTypeIsScalarPinLaw", "pick", "(I)Lcom/example/portunus/portunus/model/AttributeType;"⟩ : MethodName)) hown (mvT hZ (hw _ (List.mem_of_getElem? (i := 1) rfl))) (mvT hZ (hw _ (List.mem_of_getElem? (i := 2) rfl))) (mvT hZ (hw _ (List.mem_of_getElem? (i := 3) rfl))) (mvT hZ (hw _ (List.mem_of_getElem? (i := 4) rfl))) (by decide) (backOf (W := 0) (rm1_4 l Z a0 hw [] s_AttributeType_NS h0 n0 Z0 P8) hZ (hw _ (List.mem_of_getElem? (i := 4) rfl)) (hw _ (List.mem_of_getElem? (i := 3) rfl)) (by decide) (by decide)) (g := (mkF m 9 #[.val (.int p1), .val (.int (4 : Int32)), .unset, .unset] [(.int (4 : Int32))])) rfl (by rw [hml]; rfl) (argsL := [(.int (4 : Int32))]) (rest := []) (lenOf pd_0 rfl) rfl (by show 2 * 0 + _ ≤ _; exact Nat.le_of_eq rfl) (hb hby at_9) (fun _ _ => ⟨rfl, e0, (by decide : 0 + 0 ≤ _), (by decide : 0 + 0 ≤ _)⟩)
    dsimp only [Pt.U, Pt.locs, Pt.cells, Pt.slots] at X88 l88 y88 z88 st88 hQ88
    subst l88 y88 z88
    obtain ⟨rfl, Nq88, e88⟩ := hQ88
    have N88 := Fr.app N0 Nq88
    refine own_go (A := _) (B := T88.setTop (mkF m 12 #[.val (.int p1), .val (.int (4 : Int32)), .unset, .unset] [(.ref s_AttributeType_NS)])) st88 ?_
    refine own_go (A := T88.setTop (mkF m 12 #[.val (.int p1), .val (.int (4 : Int32)), .unset, .unset] [(.ref s_AttributeType_NS)])) (B := T88.setTop (mkF m 25 #[.val (.int p1), .val (.int (4 : Int32)), .val (.ref s_AttributeType_NS), .val (.int (0 : Int32))] [(.ref s_AttributeType_NS)])) (fun t k => ?_) ?_
    · show Steps p.tables e below (T88.setTop (mkF m 12 #[.val (.int p1), .val (.int (4 : Int32)), .unset, .unset] [(.ref s_AttributeType_NS)])) _
      refine XS.astoreN X88.here hx rfl (hb hby at_12) rfl rfl (l' := #[.val (.int p1), .val (.int (4 : Int32)), .val (.ref s_AttributeType_NS), .unset]) rfl ?_
      show Steps p.tables e below (T88.setTop (mkF m 13 #[.val (.int p1), .val (.int (4 : Int32)), .val (.ref s_AttributeType_NS), .unset] [])) _
      refine XS.iloadN X88.here hx rfl (hb hby at_13) rfl ?_
      show Steps p.tables e below (T88.setTop (mkF m 14 #[.val (.int p1), .val (.int (4 : Int32)), .val (.ref s_AttributeType_NS), .unset] [(.int (4 : Int32))])) _
      refine XS.iconst X88.here hx rfl (hb hby at_14) ?_
      show Steps p.tables e below (T88.setTop (mkF m 15 #[.val (.int p1), .val (.int (4 : Int32)), .val (.ref s_AttributeType_NS), .unset] [(.int (3 : Int32)), (.int (4 : Int32))])) _
      refine XS.icmpYes X88.here hx rfl (pc0 := 15) (pc' := 22) rfl (hb hby at_15) rfl (flt (by decide : ¬ ((4 : Int32) < (3 : Int32)))).2.1 (by decide) (by decide) ?_
      show Steps p.tables e below (T88.setTop (mkF m 22 #[.val (.int p1), .val (.int (4 : Int32)), .val (.ref s_AttributeType_NS), .unset] [])) _
      refine XS.iconst X88.here hx rfl (hb hby at_22) ?_
      show Steps p.tables e below (T88.setTop (mkF m 23 #[.val (.int p1), .val (.int (4 : Int32)), .val (.ref s_AttributeType_NS), .unset] [(.int (0 : Int32))])) _
      refine XS.istoreN X88.here hx rfl (hb hby at_23) rfl (l' := #[.val (.int p1), .val (.int (4 : Int32)), .val (.ref s_AttributeType_NS), .val (.int (0 : Int32))]) rfl ?_
      show Steps p.tables e below (T88.setTop (mkF m 24 #[.val (.int p1), .val (.int (4 : Int32)), .val (.ref s_AttributeType_NS), .val (.int (0 : Int32))] [])) _
      refine XS.aloadN X88.here hx rfl (hb hby at_24) rfl rfl ?_
      exact k
    obtain ⟨cq90, kq90, q90a, q90b, q90c⟩ := isOf hZ e88 P9
    obtain ⟨_, _, ⟨T90, L90, k90, n90⟩, -, X90, ⟨Lc90, hQ90, l90, y90, z90⟩, st90⟩ := X88.virtualBack hx (y := (⟨"com/example/portunus/portunus/model/AttributeType", "isScalar", "()Z"⟩ : MethodName)) (z := (⟨"com/example/portunus/portunus/model/AttributeType", "isScalar", "()Z"⟩ : MethodName)) hown (mvT hZ (hw _ (List.mem_of_getElem? (i := 8) rfl))) (mvT hZ (hw _ (List.mem_of_getElem? (i := 9) rfl))) (notFace_of_selects (args := #[]) (mvT hZ (hw _ (List.mem_of_getElem? (i := 11) rfl)))) (mvT hZ (hw _ (List.mem_of_getElem? (i := 11) rfl))) (mvT hZ (hw _ (List.mem_of_getElem? (i := 10) rfl))) (by decide) (backOf (W := 0) (rm2 l Z a0 hw [] s_AttributeType_NS s_AttributeType_S s_AttributeType_N s_AttributeType_B h0 n0 Z0 P0 P2 P4) hZ (hw _ (List.mem_of_getElem? (i := 12) rfl)) (hw _ (List.mem_of_getElem? (i := 6) rfl)) (by decide) (by decide)) q90a q90c (g := (mkF m 25 #[.val (.int p1), .val (.int (4 : Int32)), .val (.ref s_AttributeType_NS), .val (.int (0 : Int32))] [(.ref s_AttributeType_NS)])) rfl (by rw [hml]; rfl) (Steps.refl _) (argsL := []) (rest := []) (lenOf pd_1 rfl) rfl (by show 2 * 0 + _ ≤ _; exact Nat.le_of_eq rfl) (hb hby at_25) (fun _ _ => ⟨rfl, e88, (by decide : 0 + 0 ≤ _), (by decide : 0 + 0 ≤ _)⟩)
    dsimp only [Pt.U, Pt.locs, Pt.cells, Pt.slots] at X90 l90 y90 z90 st90 hQ90
    subst l90 y90 z90
    obtain ⟨rfl, Nq90, e90⟩ := hQ90
    have N90 := Fr.app N88 Nq90
    refine own_go (A := _) (B := T90.setTop (mkF m 28 #[.val (.int p1), .val (.int (4 : Int32)), .val (.ref s_AttributeType_NS), .val (.int (0 : Int32))] [(.int (frm2 s_AttributeType_NS s_AttributeType_S s_AttributeType_N s_AttributeType_B))])) (fun t k => st90.trans k) ?_
    refine own_go (A := T90.setTop (mkF m 28 #[.val (.int p1), .val (.int (4 : Int32)), .val (.ref s_AttributeType_NS), .val (.int (0 : Int32))] [(.int (frm2 s_AttributeType_NS s_AttributeType_S s_AttributeType_N s_AttributeType_B))])) (B := T90.setTop (mkF m 29 #[.val (.int p1), .val (.int (4 : Int32)), .val (.ref s_AttributeType_NS), .val (.int (0 : Int32))] [(.int (0 : Int32)), (.int (frm2 s_AttributeType_NS s_AttributeType_S s_AttributeType_N s_AttributeType_B))])) (fun t k => ?_) ?_
    · show Steps p.tables e below (T90.setTop (mkF m 28 #[.val (.int p1), .val (.int (4 : Int32)), .val (.ref s_AttributeType_NS), .val (.int (0 : Int32))] [(.int (frm2 s_AttributeType_NS s_AttributeType_S s_AttributeType_N s_AttributeType_B))])) _
      refine XS.iloadN X90.here hx rfl (hb hby at_28) rfl ?_
      exact k
    have hc29_91 : ((frm2 s_AttributeType_NS s_AttributeType_S s_AttributeType_N s_AttributeType_B) = (0 : Int32)) := by simp [frm2, ne_s_AttributeType_NS_s_AttributeType_S, ne_s_AttributeType_NS_s_AttributeType_N, ne_s_AttributeType_NS_s_AttributeType_B]
    refine own_go (A := T90.setTop (mkF m 29 #[.val (.int p1), .val (.int (4 : Int32)), .val (.ref s_AttributeType_NS), .val (.int (0 : Int32))] [(.int (0 : Int32)), (.int (frm2 s_AttributeType_NS s_AttributeType_S s_AttributeType_N s_AttributeType_B))])) (B := T90.setTop (mkF m 37 #[.val (.int p1), .val (.int (4 : Int32)), .val (.ref s_AttributeType_NS), .val (.int (0 : Int32))] [(.int (1 : Int32))])) (fun t k => ?_) ?_
    · show Steps p.tables e below (T90.setTop (mkF m 29 #[.val (.int p1), .val (.int (4 : Int32)), .val (.ref s_AttributeType_NS), .val (.int (0 : Int32))] [(.int (0 : Int32)), (.int (frm2 s_AttributeType_NS s_AttributeType_S s_AttributeType_N s_AttributeType_B))])) _
      refine XS.icmpNo X90.here hx rfl (hb hby at_29) rfl (teq hc29_91).2 ?_
      show Steps p.tables e below (T90.setTop (mkF m 32 #[.val (.int p1), .val (.int (4 : Int32)), .val (.ref s_AttributeType_NS), .val (.int (0 : Int32))] [])) _
      refine XS.iconst X90.here hx rfl (hb hby at_32) ?_
      show Steps p.tables e below (T90.setTop (mkF m 33 #[.val (.int p1), .val (.int (4 : Int32)), .val (.ref s_AttributeType_NS), .val (.int (0 : Int32))] [(.int (1 : Int32))])) _
      refine XS.goto X90.here hx rfl (pc0 := 33) (pc' := 37) rfl (hb hby at_33) (by decide) (by decide) ?_
      exact k
    obtain ⟨fs, hr, hrun, hended, hW, hsame⟩ := X90.leave (v := some (.int (1 : Int32))) (fun h => by rw [Bd.returns] at h; cases h)
    refine ⟨_, _, ?_, hrun, hended, _, _, rfl, ?_, ⟨_, rfl⟩, hW, hsame.mono (by decide) (by decide)⟩
    · show Steps p.tables e below (T90.setTop (mkF m 37 #[.val (.int p1), .val (.int (4 : Int32)), .val (.ref s_AttributeType_NS), .val (.int (0 : Int32))] [(.int (1 : Int32))])) _
      exact retN X90 hx (t := .boolean) Bd.returns (by simp) (hb hby at_37) hr
    · show Qrm0 Z p1 s_AttributeType_S s_AttributeType_N s_AttributeType_B s_AttributeType_SS s_AttributeType_NS s_AttributeType_BS s_AttributeType_M s_AttributeType_L s_AttributeType_BOOL s_AttributeType_NULL h0 n0 _ T90.heap _
      rw [e90]
      exact ⟨rfl, N90⟩
  · rw [hk71]
    refine own_go (A := s₁.setTop (mkF m 7 #[.val (.int p1), .unset, .unset, .unset] [(.int (5 : Int32))])) (B := s₁.setTop (mkF m 9 #[.val (.int p1), .val (.int (5 : Int32)), .unset, .unset] [(.int (5 : Int32))])) (fun t k => ?_) ?_
    · show Steps p.tables e below (s₁.setTop (mkF m 7 #[.val (.int p1), .unset, .unset, .unset] [(.int (5 : Int32))])) _
      refine XS.istoreN X0.here hx rfl (hb hby at_7) rfl (l' := #[.val (.int p1), .val (.int (5 : Int32)), .unset, .unset]) rfl ?_
      show Steps p.tables e below (s₁.setTop (mkF m 8 #[.val (.int p1), .val (.int (5 : Int32)), .unset, .unset] [])) _
      refine XS.iloadN X0.here hx rfl (hb hby at_8) rfl ?_
      exact k
    obtain ⟨_, _, ⟨T92, L92, k92, n92⟩, -, X92, ⟨Lc92, hQ92, l92, y92, z92⟩, st92⟩ := Jvm.LawKit.callS X0 hx (y := (⟨"com/example/portunus/portunus/model/AttributeTypeIsScalarPinLaw", "pick", "(I)Lcom/example/portunus/portunus/model/AttributeType;"⟩ : MethodName)) hown (mvT hZ (hw _ (List.mem_of_getElem? (i := 1) rfl))) (mvT hZ (hw _ (List.mem_of_getElem? (i := 2) rfl))) (mvT hZ (hw _ (List.mem_of_getElem? (i := 3) rfl))) (mvT hZ (hw _ (List.mem_of_getElem? (i := 4) rfl))) (by decide) (backOf (W := 0) (rm1_5 l Z a0 hw [] s_AttributeType_BS h0 n0 Z0 P10) hZ (hw _ (List.mem_of_getElem? (i := 4) rfl)) (hw _ (List.mem_of_getElem? (i := 3) rfl)) (by decide) (by decide)) (g := (mkF m 9 #[.val (.int p1), .val (.int (5 : Int32)), .unset, .unset] [(.int (5 : Int32))])) rfl (by rw [hml]; rfl) (argsL := [(.int (5 : Int32))]) (rest := []) (lenOf pd_0 rfl) rfl (by show 2 * 0 + _ ≤ _; exact Nat.le_of_eq rfl) (hb hby at_9) (fun _ _ => ⟨rfl, e0, (by decide : 0 + 0 ≤ _), (by decide : 0 + 0 ≤ _)⟩)
    dsimp only [Pt.U, Pt.locs, Pt.cells, Pt.slots] at X92 l92 y92 z92 st92 hQ92
    subst l92 y92 z92
    obtain ⟨rfl, Nq92, e92⟩ := hQ92
    have N92 := Fr.app N0 Nq92
    refine own_go (A := _) (B := T92.setTop (mkF m 12 #[.val (.int p1), .val (.int (5 : Int32)), .unset, .unset] [(.ref s_AttributeType_BS)])) st92 ?_
    refine own_go (A := T92.setTop (mkF m 12 #[.val (.int p1), .val (.int (5 : Int32)), .unset, .unset] [(.ref s_AttributeType_BS)])) (B := T92.setTop (mkF m 25 #[.val (.int p1), .val (.int (5 : Int32)), .val (.ref s_AttributeType_BS), .val (.int (0 : Int32))] [(.ref s_AttributeType_BS)])) (fun t k => ?_) ?_
    · show Steps p.tables e below (T92.setTop (mkF m 12 #[.val (.int p1), .val (.int (5 : Int32)), .unset, .unset] [(.ref s_AttributeType_BS)])) _
      refine XS.astoreN X92.here hx rfl (hb hby at_12) rfl rfl (l' := #[.val (.int p1), .val (.int (5 : Int32)), .val (.ref s_AttributeType_BS), .unset]) rfl ?_
      show Steps p.tables e below (T92.setTop (mkF m 13 #[.val (.int p1), .val (.int (5 : Int32)), .val (.ref s_AttributeType_BS), .unset] [])) _
      refine XS.iloadN X92.here hx rfl (hb hby at_13) rfl ?_
      show Steps p.tables e below (T92.setTop (mkF m 14 #[.val (.int p1), .val (.int (5 : Int32)), .val (.ref s_AttributeType_BS), .unset] [(.int (5 : Int32))])) _
      refine XS.iconst X92.here hx rfl (hb hby at_14) ?_
      show Steps p.tables e below (T92.setTop (mkF m 15 #[.val (.int p1), .val (.int (5 : Int32)), .val (.ref s_AttributeType_BS), .unset] [(.int (3 : Int32)), (.int (5 : Int32))])) _
      refine XS.icmpYes X92.here hx rfl (pc0 := 15) (pc' := 22) rfl (hb hby at_15) rfl (flt (by decide : ¬ ((5 : Int32) < (3 : Int32)))).2.1 (by decide) (by decide) ?_
      show Steps p.tables e below (T92.setTop (mkF m 22 #[.val (.int p1), .val (.int (5 : Int32)), .val (.ref s_AttributeType_BS), .unset] [])) _
      refine XS.iconst X92.here hx rfl (hb hby at_22) ?_
      show Steps p.tables e below (T92.setTop (mkF m 23 #[.val (.int p1), .val (.int (5 : Int32)), .val (.ref s_AttributeType_BS), .unset] [(.int (0 : Int32))])) _
      refine XS.istoreN X92.here hx rfl (hb hby at_23) rfl (l' := #[.val (.int p1), .val (.int (5 : Int32)), .val (.ref s_AttributeType_BS), .val (.int (0 : Int32))]) rfl ?_
      show Steps p.tables e below (T92.setTop (mkF m 24 #[.val (.int p1), .val (.int (5 : Int32)), .val (.ref s_AttributeType_BS), .val (.int (0 : Int32))] [])) _
      refine XS.aloadN X92.here hx rfl (hb hby at_24) rfl rfl ?_
      exact k
    obtain ⟨cq94, kq94, q94a, q94b, q94c⟩ := isOf hZ e92 P11
    obtain ⟨_, _, ⟨T94, L94, k94, n94⟩, -, X94, ⟨Lc94, hQ94, l94, y94, z94⟩, st94⟩ := X92.virtualBack hx (y := (⟨"com/example/portunus/portunus/model/AttributeType", "isScalar", "()Z"⟩ : MethodName)) (z := (⟨"com/example/portunus/portunus/model/AttributeType", "isScalar", "()Z"⟩ : MethodName)) hown (mvT hZ (hw _ (List.mem_of_getElem? (i := 8) rfl))) (mvT hZ (hw _ (List.mem_of_getElem? (i := 9) rfl))) (notFace_of_selects (args := #[]) (mvT hZ (hw _ (List.mem_of_getElem? (i := 11) rfl)))) (mvT hZ (hw _ (List.mem_of_getElem? (i := 11) rfl))) (mvT hZ (hw _ (List.mem_of_getElem? (i := 10) rfl))) (by decide) (backOf (W := 0) (rm2 l Z a0 hw [] s_AttributeType_BS s_AttributeType_S s_AttributeType_N s_AttributeType_B h0 n0 Z0 P0 P2 P4) hZ (hw _ (List.mem_of_getElem? (i := 12) rfl)) (hw _ (List.mem_of_getElem? (i := 6) rfl)) (by decide) (by decide)) q94a q94c (g := (mkF m 25 #[.val (.int p1), .val (.int (5 : Int32)), .val (.ref s_AttributeType_BS), .val (.int (0 : Int32))] [(.ref s_AttributeType_BS)])) rfl (by rw [hml]; rfl) (Steps.refl _) (argsL := []) (rest := []) (lenOf pd_1 rfl) rfl (by show 2 * 0 + _ ≤ _; exact Nat.le_of_eq rfl) (hb hby at_25) (fun _ _ => ⟨rfl, e92, (by decide : 0 + 0 ≤ _), (by decide : 0 + 0 ≤ _)⟩)
    dsimp only [Pt.U, Pt.locs, Pt.cells, Pt.slots] at X94 l94 y94 z94 st94 hQ94
    subst l94 y94 z94
    obtain ⟨rfl, Nq94, e94⟩ := hQ94
    have N94 := Fr.app N92 Nq94
    refine own_go (A := _) (B := T94.setTop (mkF m 28 #[.val (.int p1), .val (.int (5 : Int32)), .val (.ref s_AttributeType_BS), .val (.int (0 : Int32))] [(.int (frm2 s_AttributeType_BS s_AttributeType_S s_AttributeType_N s_AttributeType_B))])) (fun t k => st94.trans k) ?_
    refine own_go (A := T94.setTop (mkF m 28 #[.val (.int p1), .val (.int (5 : Int32)), .val (.ref s_AttributeType_BS), .val (.int (0 : Int32))] [(.int (frm2 s_AttributeType_BS s_AttributeType_S s_AttributeType_N s_AttributeType_B))])) (B := T94.setTop (mkF m 29 #[.val (.int p1), .val (.int (5 : Int32)), .val (.ref s_AttributeType_BS), .val (.int (0 : Int32))] [(.int (0 : Int32)), (.int (frm2 s_AttributeType_BS s_AttributeType_S s_AttributeType_N s_AttributeType_B))])) (fun t k => ?_) ?_
    · show Steps p.tables e below (T94.setTop (mkF m 28 #[.val (.int p1), .val (.int (5 : Int32)), .val (.ref s_AttributeType_BS), .val (.int (0 : Int32))] [(.int (frm2 s_AttributeType_BS s_AttributeType_S s_AttributeType_N s_AttributeType_B))])) _
      refine XS.iloadN X94.here hx rfl (hb hby at_28) rfl ?_
      exact k
    have hc29_95 : ((frm2 s_AttributeType_BS s_AttributeType_S s_AttributeType_N s_AttributeType_B) = (0 : Int32)) := by simp [frm2, ne_s_AttributeType_BS_s_AttributeType_S, ne_s_AttributeType_BS_s_AttributeType_N, ne_s_AttributeType_BS_s_AttributeType_B]
    refine own_go (A := T94.setTop (mkF m 29 #[.val (.int p1), .val (.int (5 : Int32)), .val (.ref s_AttributeType_BS), .val (.int (0 : Int32))] [(.int (0 : Int32)), (.int (frm2 s_AttributeType_BS s_AttributeType_S s_AttributeType_N s_AttributeType_B))])) (B := T94.setTop (mkF m 37 #[.val (.int p1), .val (.int (5 : Int32)), .val (.ref s_AttributeType_BS), .val (.int (0 : Int32))] [(.int (1 : Int32))])) (fun t k => ?_) ?_
    · show Steps p.tables e below (T94.setTop (mkF m 29 #[.val (.int p1), .val (.int (5 : Int32)), .val (.ref s_AttributeType_BS), .val (.int (0 : Int32))] [(.int (0 : Int32)), (.int (frm2 s_AttributeType_BS s_AttributeType_S s_AttributeType_N s_AttributeType_B))])) _
      refine XS.icmpNo X94.here hx rfl (hb hby at_29) rfl (teq hc29_95).2 ?_
      show Steps p.tables e below (T94.setTop (mkF m 32 #[.val (.int p1), .val (.int (5 : Int32)), .val (.ref s_AttributeType_BS), .val (.int (0 : Int32))] [])) _
      refine XS.iconst X94.here hx rfl (hb hby at_32) ?_
      show Steps p.tables e below (T94.setTop (mkF m 33 #[.val (.int p1), .val (.int (5 : Int32)), .val (.ref s_AttributeType_BS), .val (.int (0 : Int32))] [(.int (1 : Int32))])) _
      refine XS.goto X94.here hx rfl (pc0 := 33) (pc' := 37) rfl (hb hby at_33) (by decide) (by decide) ?_
      exact k
    obtain ⟨fs, hr, hrun, hended, hW, hsame⟩ := X94.leave (v := some (.int (1 : Int32))) (fun h => by rw [Bd.returns] at h; cases h)
    refine ⟨_, _, ?_, hrun, hended, _, _, rfl, ?_, ⟨_, rfl⟩, hW, hsame.mono (by decide) (by decide)⟩
    · show Steps p.tables e below (T94.setTop (mkF m 37 #[.val (.int p1), .val (.int (5 : Int32)), .val (.ref s_AttributeType_BS), .val (.int (0 : Int32))] [(.int (1 : Int32))])) _
      exact retN X94 hx (t := .boolean) Bd.returns (by simp) (hb hby at_37) hr
    · show Qrm0 Z p1 s_AttributeType_S s_AttributeType_N s_AttributeType_B s_AttributeType_SS s_AttributeType_NS s_AttributeType_BS s_AttributeType_M s_AttributeType_L s_AttributeType_BOOL s_AttributeType_NULL h0 n0 _ T94.heap _
      rw [e94]
      exact ⟨rfl, N94⟩
  · rw [hk71]
    refine own_go (A := s₁.setTop (mkF m 7 #[.val (.int p1), .unset, .unset, .unset] [(.int (6 : Int32))])) (B := s₁.setTop (mkF m 9 #[.val (.int p1), .val (.int (6 : Int32)), .unset, .unset] [(.int (6 : Int32))])) (fun t k => ?_) ?_
    · show Steps p.tables e below (s₁.setTop (mkF m 7 #[.val (.int p1), .unset, .unset, .unset] [(.int (6 : Int32))])) _
      refine XS.istoreN X0.here hx rfl (hb hby at_7) rfl (l' := #[.val (.int p1), .val (.int (6 : Int32)), .unset, .unset]) rfl ?_
      show Steps p.tables e below (s₁.setTop (mkF m 8 #[.val (.int p1), .val (.int (6 : Int32)), .unset, .unset] [])) _
      refine XS.iloadN X0.here hx rfl (hb hby at_8) rfl ?_
      exact k
    obtain ⟨_, _, ⟨T96, L96, k96, n96⟩, -, X96, ⟨Lc96, hQ96, l96, y96, z96⟩, st96⟩ := Jvm.LawKit.callS X0 hx (y := (⟨"com/example/portunus/portunus/model/AttributeTypeIsScalarPinLaw", "pick", "(I)Lcom/example/portunus/portunus/model/AttributeType;"⟩ : MethodName)) hown (mvT hZ (hw _ (List.mem_of_getElem? (i := 1) rfl))) (mvT hZ (hw _ (List.mem_of_getElem? (i := 2) rfl))) (mvT hZ (hw _ (List.mem_of_getElem? (i := 3) rfl))) (mvT hZ (hw _ (List.mem_of_getElem? (i := 4) rfl))) (by decide) (backOf (W := 0) (rm1_6 l Z a0 hw [] s_AttributeType_M h0 n0 Z0 P12) hZ (hw _ (List.mem_of_getElem? (i := 4) rfl)) (hw _ (List.mem_of_getElem? (i := 3) rfl)) (by decide) (by decide)) (g := (mkF m 9 #[.val (.int p1), .val (.int (6 : Int32)), .unset, .unset] [(.int (6 : Int32))])) rfl (by rw [hml]; rfl) (argsL := [(.int (6 : Int32))]) (rest := []) (lenOf pd_0 rfl) rfl (by show 2 * 0 + _ ≤ _; exact Nat.le_of_eq rfl) (hb hby at_9) (fun _ _ => ⟨rfl, e0, (by decide : 0 + 0 ≤ _), (by decide : 0 + 0 ≤ _)⟩)
    dsimp only [Pt.U, Pt.locs, Pt.cells, Pt.slots] at X96 l96 y96 z96 st96 hQ96
    subst l96 y96 z96
    obtain ⟨rfl, Nq96, e96⟩ := hQ96
    have N96 := Fr.app N0 Nq96
    refine own_go (A := _) (B := T96.setTop (mkF m 12 #[.val (.int p1), .val (.int (6 : Int32)), .unset, .unset] [(.ref s_AttributeType_M)])) st96 ?_
    refine own_go (A := T96.setTop (mkF m 12 #[.val (.int p1), .val (.int (6 : Int32)), .unset, .unset] [(.ref s_AttributeType_M)])) (B := T96.setTop (mkF m 25 #[.val (.int p1), .val (.int (6 : Int32)), .val (.ref s_AttributeType_M), .val (.int (0 : Int32))] [(.ref s_AttributeType_M)])) (fun t k => ?_) ?_
    · show Steps p.tables e below (T96.setTop (mkF m 12 #[.val (.int p1), .val (.int (6 : Int32)), .unset, .unset] [(.ref s_AttributeType_M)])) _
      refine XS.astoreN X96.here hx rfl (hb hby at_12) rfl rfl (l' := #[.val (.int p1), .val (.int (6 : Int32)), .val (.ref s_AttributeType_M), .unset]) rfl ?_
      show Steps p.tables e below (T96.setTop (mkF m 13 #[.val (.int p1), .val (.int (6 : Int32)), .val (.ref s_AttributeType_M), .unset] [])) _
      refine XS.iloadN X96.here hx rfl (hb hby at_13) rfl ?_
      show Steps p.tables e below (T96.setTop (mkF m 14 #[.val (.int p1), .val (.int (6 : Int32)), .val (.ref s_AttributeType_M), .unset] [(.int (6 : Int32))])) _
      refine XS.iconst X96.here hx rfl (hb hby at_14) ?_
      show Steps p.tables e below (T96.setTop (mkF m 15 #[.val (.int p1), .val (.int (6 : Int32)), .val (.ref s_AttributeType_M), .unset] [(.int (3 : Int32)), (.int (6 : Int32))])) _
      refine XS.icmpYes X96.here hx rfl (pc0 := 15) (pc' := 22) rfl (hb hby at_15) rfl (flt (by decide : ¬ ((6 : Int32) < (3 : Int32)))).2.1 (by decide) (by decide) ?_
      show Steps p.tables e below (T96.setTop (mkF m 22 #[.val (.int p1), .val (.int (6 : Int32)), .val (.ref s_AttributeType_M), .unset] [])) _
      refine XS.iconst X96.here hx rfl (hb hby at_22) ?_
      show Steps p.tables e below (T96.setTop (mkF m 23 #[.val (.int p1), .val (.int (6 : Int32)), .val (.ref s_AttributeType_M), .unset] [(.int (0 : Int32))])) _
      refine XS.istoreN X96.here hx rfl (hb hby at_23) rfl (l' := #[.val (.int p1), .val (.int (6 : Int32)), .val (.ref s_AttributeType_M), .val (.int (0 : Int32))]) rfl ?_
      show Steps p.tables e below (T96.setTop (mkF m 24 #[.val (.int p1), .val (.int (6 : Int32)), .val (.ref s_AttributeType_M), .val (.int (0 : Int32))] [])) _
      refine XS.aloadN X96.here hx rfl (hb hby at_24) rfl rfl ?_
      exact k
    obtain ⟨cq98, kq98, q98a, q98b, q98c⟩ := isOf hZ e96 P13
    obtain ⟨_, _, ⟨T98, L98, k98, n98⟩, -, X98, ⟨Lc98, hQ98, l98, y98, z98⟩, st98⟩ := X96.virtualBack hx (y := (⟨"com/example/portunus/portunus/model/AttributeType", "isScalar", "()Z"⟩ : MethodName)) (z := (⟨"com/example/portunus/portunus/model/AttributeType", "isScalar", "()Z"⟩ : MethodName)) hown (mvT hZ (hw _ (List.mem_of_getElem? (i := 8) rfl))) (mvT hZ (hw _ (List.mem_of_getElem? (i := 9) rfl))) (notFace_of_selects (args := #[]) (mvT hZ (hw _ (List.mem_of_getElem? (i := 11) rfl)))) (mvT hZ (hw _ (List.mem_of_getElem? (i := 11) rfl))) (mvT hZ (hw _ (List.mem_of_getElem? (i := 10) rfl))) (by decide) (backOf (W := 0) (rm2 l Z a0 hw [] s_AttributeType_M s_AttributeType_S s_AttributeType_N s_AttributeType_B h0 n0 Z0 P0 P2 P4) hZ (hw _ (List.mem_of_getElem? (i := 12) rfl)) (hw _ (List.mem_of_getElem? (i := 6) rfl)) (by decide) (by decide)) q98a q98c (g := (mkF m 25 #[.val (.int p1), .val (.int (6 : Int32)), .val (.ref s_AttributeType_M), .val (.int (0 : Int32))] [(.ref s_AttributeType_M)])) rfl (by rw [hml]; rfl) (Steps.refl _) (argsL := []) (rest := []) (lenOf pd_1 rfl) rfl (by show 2 * 0 + _ ≤ _; exact Nat.le_of_eq rfl) (hb hby at_25) (fun _ _ => ⟨rfl, e96, (by decide : 0 + 0 ≤ _), (by decide : 0 + 0 ≤ _)⟩)
    dsimp only [Pt.U, Pt.locs, Pt.cells, Pt.slots] at X98 l98 y98 z98 st98 hQ98
    subst l98 y98 z98
    obtain ⟨rfl, Nq98, e98⟩ := hQ98
    have N98 := Fr.app N96 Nq98
    refine own_go (A := _) (B := T98.setTop (mkF m 28 #[.val (.int p1), .val (.int (6 : Int32)), .val (.ref s_AttributeType_M), .val (.int (0 : Int32))] [(.int (frm2 s_AttributeType_M s_AttributeType_S s_AttributeType_N s_AttributeType_B))])) (fun t k => st98.trans k) ?_
    refine own_go (A := T98.setTop (mkF m 28 #[.val (.int p1), .val (.int (6 : Int32)), .val (.ref s_AttributeType_M), .val (.int (0 : Int32))] [(.int (frm2 s_AttributeType_M s_AttributeType_S s_AttributeType_N s_AttributeType_B))])) (B := T98.setTop (mkF m 29 #[.val (.int p1), .val (.int (6 : Int32)), .val (.ref s_AttributeType_M), .val (.int (0 : Int32))] [(.int (0 : Int32)), (.int (frm2 s_AttributeType_M s_AttributeType_S s_AttributeType_N s_AttributeType_B))])) (fun t k => ?_) ?_
    · show Steps p.tables e below (T98.setTop (mkF m 28 #[.val (.int p1), .val (.int (6 : Int32)), .val (.ref s_AttributeType_M), .val (.int (0 : Int32))] [(.int (frm2 s_AttributeType_M s_AttributeType_S s_AttributeType_N s_AttributeType_B))])) _
      refine XS.iloadN X98.here hx rfl (hb hby at_28) rfl ?_
      exact k
    have hc29_99 : ((frm2 s_AttributeType_M s_AttributeType_S s_AttributeType_N s_AttributeType_B) = (0 : Int32)) := by simp [frm2, ne_s_AttributeType_M_s_AttributeType_S, ne_s_AttributeType_M_s_AttributeType_N, ne_s_AttributeType_M_s_AttributeType_B]
    refine own_go (A := T98.setTop (mkF m 29 #[.val (.int p1), .val (.int (6 : Int32)), .val (.ref s_AttributeType_M), .val (.int (0 : Int32))] [(.int (0 : Int32)), (.int (frm2 s_AttributeType_M s_AttributeType_S s_AttributeType_N s_AttributeType_B))])) (B := T98.setTop (mkF m 37 #[.val (.int p1), .val (.int (6 : Int32)), .val (.ref s_AttributeType_M), .val (.int (0 : Int32))] [(.int (1 : Int32))])) (fun t k => ?_) ?_
    · show Steps p.tables e below (T98.setTop (mkF m 29 #[.val (.int p1), .val (.int (6 : Int32)), .val (.ref s_AttributeType_M), .val (.int (0 : Int32))] [(.int (0 : Int32)), (.int (frm2 s_AttributeType_M s_AttributeType_S s_AttributeType_N s_AttributeType_B))])) _
      refine XS.icmpNo X98.here hx rfl (hb hby at_29) rfl (teq hc29_99).2 ?_
      show Steps p.tables e below (T98.setTop (mkF m 32 #[.val (.int p1), .val (.int (6 : Int32)), .val (.ref s_AttributeType_M), .val (.int (0 : Int32))] [])) _
      refine XS.iconst X98.here hx rfl (hb hby at_32) ?_
      show Steps p.tables e below (T98.setTop (mkF m 33 #[.val (.int p1), .val (.int (6 : Int32)), .val (.ref s_AttributeType_M), .val (.int (0 : Int32))] [(.int (1 : Int32))])) _
      refine XS.goto X98.here hx rfl (pc0 := 33) (pc' := 37) rfl (hb hby at_33) (by decide) (by decide) ?_
      exact k
    obtain ⟨fs, hr, hrun, hended, hW, hsame⟩ := X98.leave (v := some (.int (1 : Int32))) (fun h => by rw [Bd.returns] at h; cases h)
    refine ⟨_, _, ?_, hrun, hended, _, _, rfl, ?_, ⟨_, rfl⟩, hW, hsame.mono (by decide) (by decide)⟩
    · show Steps p.tables e below (T98.setTop (mkF m 37 #[.val (.int p1), .val (.int (6 : Int32)), .val (.ref s_AttributeType_M), .val (.int (0 : Int32))] [(.int (1 : Int32))])) _
      exact retN X98 hx (t := .boolean) Bd.returns (by simp) (hb hby at_37) hr
    · show Qrm0 Z p1 s_AttributeType_S s_AttributeType_N s_AttributeType_B s_AttributeType_SS s_AttributeType_NS s_AttributeType_BS s_AttributeType_M s_AttributeType_L s_AttributeType_BOOL s_AttributeType_NULL h0 n0 _ T98.heap _
      rw [e98]
      exact ⟨rfl, N98⟩
  · rw [hk71]
    refine own_go (A := s₁.setTop (mkF m 7 #[.val (.int p1), .unset, .unset, .unset] [(.int (7 : Int32))])) (B := s₁.setTop (mkF m 9 #[.val (.int p1), .val (.int (7 : Int32)), .unset, .unset] [(.int (7 : Int32))])) (fun t k => ?_) ?_
    · show Steps p.tables e below (s₁.setTop (mkF m 7 #[.val (.int p1), .unset, .unset, .unset] [(.int (7 : Int32))])) _
      refine XS.istoreN X0.here hx rfl (hb hby at_7) rfl (l' := #[.val (.int p1), .val (.int (7 : Int32)), .unset, .unset]) rfl ?_
      show Steps p.tables e below (s₁.setTop (mkF m 8 #[.val (.int p1), .val (.int (7 : Int32)), .unset, .unset] [])) _
      refine XS.iloadN X0.here hx rfl (hb hby at_8) rfl ?_
      exact k
    obtain ⟨_, _, ⟨T100, L100, k100, n100⟩, -, X100, ⟨Lc100, hQ100, l100, y100, z100⟩, st100⟩ := Jvm.LawKit.callS X0 hx (y := (⟨"com/example/portunus/portunus/model/AttributeTypeIsScalarPinLaw", "pick", "(I)Lcom/example/portunus/portunus/model/AttributeType;"⟩ : MethodName)) hown (mvT hZ (hw _ (List.mem_of_getElem? (i := 1) rfl))) (mvT hZ (hw _ (List.mem_of_getElem? (i := 2) rfl))) (mvT hZ (hw _ (List.mem_of_getElem? (i := 3) rfl))) (mvT hZ (hw _ (List.mem_of_getElem? (i := 4) rfl))) (by decide) (backOf (W := 0) (rm1_7 l Z a0 hw [] s_AttributeType_L h0 n0 Z0 P14) hZ (hw _ (List.mem_of_getElem? (i := 4) rfl)) (hw _ (List.mem_of_getElem? (i := 3) rfl)) (by decide) (by decide)) (g := (mkF m 9 #[.val (.int p1), .val (.int (7 : Int32)), .unset, .unset] [(.int (7 : Int32))])) rfl (by rw [hml]; rfl) (argsL := [(.int (7 : Int32))]) (rest := []) (lenOf pd_0 rfl) rfl (by show 2 * 0 + _ ≤ _; exact Nat.le_of_eq rfl) (hb hby at_9) (fun _ _ => ⟨rfl, e0, (by decide : 0 + 0 ≤ _), (by decide : 0 + 0 ≤ _)⟩)
    dsimp only [Pt.U, Pt.locs, Pt.cells, Pt.slots] at X100 l100 y100 z100 st100 hQ100
    subst l100 y100 z100
    obtain ⟨rfl, Nq100, e100⟩ := hQ100
    have N100 := Fr.app N0 Nq100
    refine own_go (A := _) (B := T100.setTop (mkF m 12 #[.val (.int p1), .val (.int (7 : Int32)), .unset, .unset] [(.ref s_AttributeType_L)])) st100 ?_
    refine own_go (A := T100.setTop (mkF m 12 #[.val (.int p1), .val (.int (7 : Int32)), .unset, .unset] [(.ref s_AttributeType_L)])) (B := T100.setTop (mkF m 25 #[.val (.int p1), .val (.int (7 : Int32)), .val (.ref s_AttributeType_L), .val (.int (0 : Int32))] [(.ref s_AttributeType_L)])) (fun t k => ?_) ?_
    · show Steps p.tables e below (T100.setTop (mkF m 12 #[.val (.int p1), .val (.int (7 : Int32)), .unset, .unset] [(.ref s_AttributeType_L)])) _
      refine XS.astoreN X100.here hx rfl (hb hby at_12) rfl rfl (l' := #[.val (.int p1), .val (.int (7 : Int32)), .val (.ref s_AttributeType_L), .unset]) rfl ?_
      show Steps p.tables e below (T100.setTop (mkF m 13 #[.val (.int p1), .val (.int (7 : Int32)), .val (.ref s_AttributeType_L), .unset] [])) _
      refine XS.iloadN X100.here hx rfl (hb hby at_13) rfl ?_
      show Steps p.tables e below (T100.setTop (mkF m 14 #[.val (.int p1), .val (.int (7 : Int32)), .val (.ref s_AttributeType_L), .unset] [(.int (7 : Int32))])) _
      refine XS.iconst X100.here hx rfl (hb hby at_14) ?_
      show Steps p.tables e below (T100.setTop (mkF m 15 #[.val (.int p1), .val (.int (7 : Int32)), .val (.ref s_AttributeType_L), .unset] [(.int (3 : Int32)), (.int (7 : Int32))])) _
      refine XS.icmpYes X100.here hx rfl (pc0 := 15) (pc' := 22) rfl (hb hby at_15) rfl (flt (by decide : ¬ ((7 : Int32) < (3 : Int32)))).2.1 (by decide) (by decide) ?_
      show Steps p.tables e below (T100.setTop (mkF m 22 #[.val (.int p1), .val (.int (7 : Int32)), .val (.ref s_AttributeType_L), .unset] [])) _
      refine XS.iconst X100.here hx rfl (hb hby at_22) ?_
      show Steps p.tables e below (T100.setTop (mkF m 23 #[.val (.int p1), .val (.int (7 : Int32)), .val (.ref s_AttributeType_L), .unset] [(.int (0 : Int32))])) _
      refine XS.istoreN X100.here hx rfl (hb hby at_23) rfl (l' := #[.val (.int p1), .val (.int (7 : Int32)), .val (.ref s_AttributeType_L), .val (.int (0 : Int32))]) rfl ?_
      show Steps p.tables e below (T100.setTop (mkF m 24 #[.val (.int p1), .val (.int (7 : Int32)), .val (.ref s_AttributeType_L), .val (.int (0 : Int32))] [])) _
      refine XS.aloadN X100.here hx rfl (hb hby at_24) rfl rfl ?_
      exact k
    obtain ⟨cq102, kq102, q102a, q102b, q102c⟩ := isOf hZ e100 P15
    obtain ⟨_, _, ⟨T102, L102, k102, n102⟩, -, X102, ⟨Lc102, hQ102, l102, y102, z102⟩, st102⟩ := X100.virtualBack hx (y := (⟨"com/example/portunus/portunus/model/AttributeType", "isScalar", "()Z"⟩ : MethodName)) (z := (⟨"com/example/portunus/portunus/model/AttributeType", "isScalar", "()Z"⟩ : MethodName)) hown (mvT hZ (hw _ (List.mem_of_getElem? (i := 8) rfl))) (mvT hZ (hw _ (List.mem_of_getElem? (i := 9) rfl))) (notFace_of_selects (args := #[]) (mvT hZ (hw _ (List.mem_of_getElem? (i := 11) rfl)))) (mvT hZ (hw _ (List.mem_of_getElem? (i := 11) rfl))) (mvT hZ (hw _ (List.mem_of_getElem? (i := 10) rfl))) (by decide) (backOf (W := 0) (rm2 l Z a0 hw [] s_AttributeType_L s_AttributeType_S s_AttributeType_N s_AttributeType_B h0 n0 Z0 P0 P2 P4) hZ (hw _ (List.mem_of_getElem? (i := 12) rfl)) (hw _ (List.mem_of_getElem? (i := 6) rfl)) (by decide) (by decide)) q102a q102c (g := (mkF m 25 #[.val (.int p1), .val (.int (7 : Int32)), .val (.ref s_AttributeType_L), .val (.int (0 : Int32))] [(.ref s_AttributeType_L)])) rfl (by rw [hml]; rfl) (Steps.refl _) (argsL := []) (rest := []) (lenOf pd_1 rfl) rfl (by show 2 * 0 + _ ≤ _; exact Nat.le_of_eq rfl) (hb hby at_25) (fun _ _ => ⟨rfl, e100, (by decide : 0 + 0 ≤ _), (by decide : 0 + 0 ≤ _)⟩)
    dsimp only [Pt.U, Pt.locs, Pt.cells, Pt.slots] at X102 l102 y102 z102 st102 hQ102
    subst l102 y102 z102
    obtain ⟨rfl, Nq102, e102⟩ := hQ102
    have N102 := Fr.app N100 Nq102
    refine own_go (A := _) (B := T102.setTop (mkF m 28 #[.val (.int p1), .val (.int (7 : Int32)), .val (.ref s_AttributeType_L), .val (.int (0 : Int32))] [(.int (frm2 s_AttributeType_L s_AttributeType_S s_AttributeType_N s_AttributeType_B))])) (fun t k => st102.trans k) ?_
    refine own_go (A := T102.setTop (mkF m 28 #[.val (.int p1), .val (.int (7 : Int32)), .val (.ref s_AttributeType_L), .val (.int (0 : Int32))] [(.int (frm2 s_AttributeType_L s_AttributeType_S s_AttributeType_N s_AttributeType_B))])) (B := T102.setTop (mkF m 29 #[.val (.int p1), .val (.int (7 : Int32)), .val (.ref s_AttributeType_L), .val (.int (0 : Int32))] [(.int (0 : Int32)), (.int (frm2 s_AttributeType_L s_AttributeType_S s_AttributeType_N s_AttributeType_B))])) (fun t k => ?_) ?_
    · show Steps p.tables e below (T102.setTop (mkF m 28 #[.val (.int p1), .val (.int (7 : Int32)), .val (.ref s_AttributeType_L), .val (.int (0 : Int32))] [(.int (frm2 s_AttributeType_L s_AttributeType_S s_AttributeType_N s_AttributeType_B))])) _
      refine XS.iloadN X102.here hx rfl (hb hby at_28) rfl ?_
      exact k
    have hc29_103 : ((frm2 s_AttributeType_L s_AttributeType_S s_AttributeType_N s_AttributeType_B) = (0 : Int32)) := by simp [frm2, ne_s_AttributeType_L_s_AttributeType_S, ne_s_AttributeType_L_s_AttributeType_N, ne_s_AttributeType_L_s_AttributeType_B]
    refine own_go (A := T102.setTop (mkF m 29 #[.val (.int p1), .val (.int (7 : Int32)), .val (.ref s_AttributeType_L), .val (.int (0 : Int32))] [(.int (0 : Int32)), (.int (frm2 s_AttributeType_L s_AttributeType_S s_AttributeType_N s_AttributeType_B))])) (B := T102.setTop (mkF m 37 #[.val (.int p1), .val (.int (7 : Int32)), .val (.ref s_AttributeType_L), .val (.int (0 : Int32))] [(.int (1 : Int32))])) (fun t k => ?_) ?_
    · show Steps p.tables e below (T102.setTop (mkF m 29 #[.val (.int p1), .val (.int (7 : Int32)), .val (.ref s_AttributeType_L), .val (.int (0 : Int32))] [(.int (0 : Int32)), (.int (frm2 s_AttributeType_L s_AttributeType_S s_AttributeType_N s_AttributeType_B))])) _
      refine XS.icmpNo X102.here hx rfl (hb hby at_29) rfl (teq hc29_103).2 ?_
      show Steps p.tables e below (T102.setTop (mkF m 32 #[.val (.int p1), .val (.int (7 : Int32)), .val (.ref s_AttributeType_L), .val (.int (0 : Int32))] [])) _
      refine XS.iconst X102.here hx rfl (hb hby at_32) ?_
      show Steps p.tables e below (T102.setTop (mkF m 33 #[.val (.int p1), .val (.int (7 : Int32)), .val (.ref s_AttributeType_L), .val (.int (0 : Int32))] [(.int (1 : Int32))])) _
      refine XS.goto X102.here hx rfl (pc0 := 33) (pc' := 37) rfl (hb hby at_33) (by decide) (by decide) ?_
      exact k
    obtain ⟨fs, hr, hrun, hended, hW, hsame⟩ := X102.leave (v := some (.int (1 : Int32))) (fun h => by rw [Bd.returns] at h; cases h)
    refine ⟨_, _, ?_, hrun, hended, _, _, rfl, ?_, ⟨_, rfl⟩, hW, hsame.mono (by decide) (by decide)⟩
    · show Steps p.tables e below (T102.setTop (mkF m 37 #[.val (.int p1), .val (.int (7 : Int32)), .val (.ref s_AttributeType_L), .val (.int (0 : Int32))] [(.int (1 : Int32))])) _
      exact retN X102 hx (t := .boolean) Bd.returns (by simp) (hb hby at_37) hr
    · show Qrm0 Z p1 s_AttributeType_S s_AttributeType_N s_AttributeType_B s_AttributeType_SS s_AttributeType_NS s_AttributeType_BS s_AttributeType_M s_AttributeType_L s_AttributeType_BOOL s_AttributeType_NULL h0 n0 _ T102.heap _
      rw [e102]
      exact ⟨rfl, N102⟩
  · rw [hk71]
    refine own_go (A := s₁.setTop (mkF m 7 #[.val (.int p1), .unset, .unset, .unset] [(.int (8 : Int32))])) (B := s₁.setTop (mkF m 9 #[.val (.int p1), .val (.int (8 : Int32)), .unset, .unset] [(.int (8 : Int32))])) (fun t k => ?_) ?_
    · show Steps p.tables e below (s₁.setTop (mkF m 7 #[.val (.int p1), .unset, .unset, .unset] [(.int (8 : Int32))])) _
      refine XS.istoreN X0.here hx rfl (hb hby at_7) rfl (l' := #[.val (.int p1), .val (.int (8 : Int32)), .unset, .unset]) rfl ?_
      show Steps p.tables e below (s₁.setTop (mkF m 8 #[.val (.int p1), .val (.int (8 : Int32)), .unset, .unset] [])) _
      refine XS.iloadN X0.here hx rfl (hb hby at_8) rfl ?_
      exact k
    obtain ⟨_, _, ⟨T104, L104, k104, n104⟩, -, X104, ⟨Lc104, hQ104, l104, y104, z104⟩, st104⟩ := Jvm.LawKit.callS X0 hx (y := (⟨"com/example/portunus/portunus/model/AttributeTypeIsScalarPinLaw", "pick", "(I)Lcom/example/portunus/portunus/model/AttributeType;"⟩ : MethodName)) hown (mvT hZ (hw _ (List.mem_of_getElem? (i := 1) rfl))) (mvT hZ (hw _ (List.mem_of_getElem? (i := 2) rfl))) (mvT hZ (hw _ (List.mem_of_getElem? (i := 3) rfl))) (mvT hZ (hw _ (List.mem_of_getElem? (i := 4) rfl))) (by decide) (backOf (W := 0) (rm1_8 l Z a0 hw [] s_AttributeType_BOOL h0 n0 Z0 P16) hZ (hw _ (List.mem_of_getElem? (i := 4) rfl)) (hw _ (List.mem_of_getElem? (i := 3) rfl)) (by decide) (by decide)) (g := (mkF m 9 #[.val (.int p1), .val (.int (8 : Int32)), .unset, .unset] [(.int (8 : Int32))])) rfl (by rw [hml]; rfl) (argsL := [(.int (8 : Int32))]) (rest := []) (lenOf pd_0 rfl) rfl (by show 2 * 0 + _ ≤ _; exact Nat.le_of_eq rfl) (hb hby at_9) (fun _ _ => ⟨rfl, e0, (by decide : 0 + 0 ≤ _), (by decide : 0 + 0 ≤ _)⟩)
    dsimp only [Pt.U, Pt.locs, Pt.cells, Pt.slots] at X104 l104 y104 z104 st104 hQ104
    subst l104 y104 z104
    obtain ⟨rfl, Nq104, e104⟩ := hQ104
    have N104 := Fr.app N0 Nq104
    refine own_go (A := _) (B := T104.setTop (mkF m 12 #[.val (.int p1), .val (.int (8 : Int32)), .unset, .unset] [(.ref s_AttributeType_BOOL)])) st104 ?_
    refine own_go (A := T104.setTop (mkF m 12 #[.val (.int p1), .val (.int (8 : Int32)), .unset, .unset] [(.ref s_AttributeType_BOOL)])) (B := T104.setTop (mkF m 25 #[.val (.int p1), .val (.int (8 : Int32)), .val (.ref s_AttributeType_BOOL), .val (.int (0 : Int32))] [(.ref s_AttributeType_BOOL)])) (fun t k => ?_) ?_
    · show Steps p.tables e below (T104.setTop (mkF m 12 #[.val (.int p1), .val (.int (8 : Int32)), .unset, .unset] [(.ref s_AttributeType_BOOL)])) _
      refine XS.astoreN X104.here hx rfl (hb hby at_12) rfl rfl (l' := #[.val (.int p1), .val (.int (8 : Int32)), .val (.ref s_AttributeType_BOOL), .unset]) rfl ?_
      show Steps p.tables e below (T104.setTop (mkF m 13 #[.val (.int p1), .val (.int (8 : Int32)), .val (.ref s_AttributeType_BOOL), .unset] [])) _
      refine XS.iloadN X104.here hx rfl (hb hby at_13) rfl ?_
      show Steps p.tables e below (T104.setTop (mkF m 14 #[.val (.int p1), .val (.int (8 : Int32)), .val (.ref s_AttributeType_BOOL), .unset] [(.int (8 : Int32))])) _
      refine XS.iconst X104.here hx rfl (hb hby at_14) ?_
      show Steps p.tables e below (T104.setTop (mkF m 15 #[.val (.int p1), .val (.int (8 : Int32)), .val (.ref s_AttributeType_BOOL), .unset] [(.int (3 : Int32)), (.int (8 : Int32))])) _
      refine XS.icmpYes X104.here hx rfl (pc0 := 15) (pc' := 22) rfl (hb hby at_15) rfl (flt (by decide : ¬ ((8 : Int32) < (3 : Int32)))).2.1 (by decide) (by decide) ?_
      show Steps p.tables e below (T104.setTop (mkF m 22 #[.val (.int p1), .val (.int (8 : Int32)), .val (.ref s_AttributeType_BOOL), .unset] [])) _
      refine XS.iconst X104.here hx rfl (hb hby at_22) ?_
      show Steps p.tables e below (T104.setTop (mkF m 23 #[.val (.int p1), .val (.int (8 : Int32)), .val (.ref s_AttributeType_BOOL), .unset] [(.int (0 : Int32))])) _
      refine XS.istoreN X104.here hx rfl (hb hby at_23) rfl (l' := #[.val (.int p1), .val (.int (8 : Int32)), .val (.ref s_AttributeType_BOOL), .val (.int (0 : Int32))]) rfl ?_
      show Steps p.tables e below (T104.setTop (mkF m 24 #[.val (.int p1), .val (.int (8 : Int32)), .val (.ref s_AttributeType_BOOL), .val (.int (0 : Int32))] [])) _
      refine XS.aloadN X104.here hx rfl (hb hby at_24) rfl rfl ?_
      exact k
    obtain ⟨cq106, kq106, q106a, q106b, q106c⟩ := isOf hZ e104 P17
    obtain ⟨_, _, ⟨T106, L106, k106, n106⟩, -, X106, ⟨Lc106, hQ106, l106, y106, z106⟩, st106⟩ := X104.virtualBack hx (y := (⟨"com/example/portunus/portunus/model/AttributeType", "isScalar", "()Z"⟩ : MethodName)) (z := (⟨"com/example/portunus/portunus/model/AttributeType", "isScalar", "()Z"⟩ : MethodName)) hown (mvT hZ (hw _ (List.mem_of_getElem? (i := 8) rfl))) (mvT hZ (hw _ (List.mem_of_getElem? (i := 9) rfl))) (notFace_of_selects (args := #[]) (mvT hZ (hw _ (List.mem_of_getElem? (i := 11) rfl)))) (mvT hZ (hw _ (List.mem_of_getElem? (i := 11) rfl))) (mvT hZ (hw _ (List.mem_of_getElem? (i := 10) rfl))) (by decide) (backOf (W := 0) (rm2 l Z a0 hw [] s_AttributeType_BOOL s_AttributeType_S s_AttributeType_N s_AttributeType_B h0 n0 Z0 P0 P2 P4) hZ (hw _ (List.mem_of_getElem? (i := 12) rfl)) (hw _ (List.mem_of_getElem? (i := 6) rfl)) (by decide) (by decide)) q106a q106c (g := (mkF m 25 #[.val (.int p1), .val (.int (8 : Int32)), .val (.ref s_AttributeType_BOOL), .val (.int (0 : Int32))] [(.ref s_AttributeType_BOOL)])) rfl (by rw [hml]; rfl) (Steps.refl _) (argsL := []) (rest := []) (lenOf pd_1 rfl) rfl (by show 2 * 0 + _ ≤ _; exact Nat.le_of_eq rfl) (hb hby at_25) (fun _ _ => ⟨rfl, e104, (by decide : 0 + 0 ≤ _), (by decide : 0 + 0 ≤ _)⟩)
    dsimp only [Pt.U, Pt.locs, Pt.cells, Pt.slots] at X106 l106 y106 z106 st106 hQ106
    subst l106 y106 z106
    obtain ⟨rfl, Nq106, e106⟩ := hQ106
    have N106 := Fr.app N104 Nq106
    refine own_go (A := _) (B := T106.setTop (mkF m 28 #[.val (.int p1), .val (.int (8 : Int32)), .val (.ref s_AttributeType_BOOL), .val (.int (0 : Int32))] [(.int (frm2 s_AttributeType_BOOL s_AttributeType_S s_AttributeType_N s_AttributeType_B))])) (fun t k => st106.trans k) ?_
    refine own_go (A := T106.setTop (mkF m 28 #[.val (.int p1), .val (.int (8 : Int32)), .val (.ref s_AttributeType_BOOL), .val (.int (0 : Int32))] [(.int (frm2 s_AttributeType_BOOL s_AttributeType_S s_AttributeType_N s_AttributeType_B))])) (B := T106.setTop (mkF m 29 #[.val (.int p1), .val (.int (8 : Int32)), .val (.ref s_AttributeType_BOOL), .val (.int (0 : Int32))] [(.int (0 : Int32)), (.int (frm2 s_AttributeType_BOOL s_AttributeType_S s_AttributeType_N s_AttributeType_B))])) (fun t k => ?_) ?_
    · show Steps p.tables e below (T106.setTop (mkF m 28 #[.val (.int p1), .val (.int (8 : Int32)), .val (.ref s_AttributeType_BOOL), .val (.int (0 : Int32))] [(.int (frm2 s_AttributeType_BOOL s_AttributeType_S s_AttributeType_N s_AttributeType_B))])) _
      refine XS.iloadN X106.here hx rfl (hb hby at_28) rfl ?_
      exact k
    have hc29_107 : ((frm2 s_AttributeType_BOOL s_AttributeType_S s_AttributeType_N s_AttributeType_B) = (0 : Int32)) := by simp [frm2, ne_s_AttributeType_BOOL_s_AttributeType_S, ne_s_AttributeType_BOOL_s_AttributeType_N, ne_s_AttributeType_BOOL_s_AttributeType_B]
    refine own_go (A := T106.setTop (mkF m 29 #[.val (.int p1), .val (.int (8 : Int32)), .val (.ref s_AttributeType_BOOL), .val (.int (0 : Int32))] [(.int (0 : Int32)), (.int (frm2 s_AttributeType_BOOL s_AttributeType_S s_AttributeType_N s_AttributeType_B))])) (B := T106.setTop (mkF m 37 #[.val (.int p1), .val (.int (8 : Int32)), .val (.ref s_AttributeType_BOOL), .val (.int (0 : Int32))] [(.int (1 : Int32))])) (fun t k => ?_) ?_
    · show Steps p.tables e below (T106.setTop (mkF m 29 #[.val (.int p1), .val (.int (8 : Int32)), .val (.ref s_AttributeType_BOOL), .val (.int (0 : Int32))] [(.int (0 : Int32)), (.int (frm2 s_AttributeType_BOOL s_AttributeType_S s_AttributeType_N s_AttributeType_B))])) _
      refine XS.icmpNo X106.here hx rfl (hb hby at_29) rfl (teq hc29_107).2 ?_
      show Steps p.tables e below (T106.setTop (mkF m 32 #[.val (.int p1), .val (.int (8 : Int32)), .val (.ref s_AttributeType_BOOL), .val (.int (0 : Int32))] [])) _
      refine XS.iconst X106.here hx rfl (hb hby at_32) ?_
      show Steps p.tables e below (T106.setTop (mkF m 33 #[.val (.int p1), .val (.int (8 : Int32)), .val (.ref s_AttributeType_BOOL), .val (.int (0 : Int32))] [(.int (1 : Int32))])) _
      refine XS.goto X106.here hx rfl (pc0 := 33) (pc' := 37) rfl (hb hby at_33) (by decide) (by decide) ?_
      exact k
    obtain ⟨fs, hr, hrun, hended, hW, hsame⟩ := X106.leave (v := some (.int (1 : Int32))) (fun h => by rw [Bd.returns] at h; cases h)
    refine ⟨_, _, ?_, hrun, hended, _, _, rfl, ?_, ⟨_, rfl⟩, hW, hsame.mono (by decide) (by decide)⟩
    · show Steps p.tables e below (T106.setTop (mkF m 37 #[.val (.int p1), .val (.int (8 : Int32)), .val (.ref s_AttributeType_BOOL), .val (.int (0 : Int32))] [(.int (1 : Int32))])) _
      exact retN X106 hx (t := .boolean) Bd.returns (by simp) (hb hby at_37) hr
    · show Qrm0 Z p1 s_AttributeType_S s_AttributeType_N s_AttributeType_B s_AttributeType_SS s_AttributeType_NS s_AttributeType_BS s_AttributeType_M s_AttributeType_L s_AttributeType_BOOL s_AttributeType_NULL h0 n0 _ T106.heap _
      rw [e106]
      exact ⟨rfl, N106⟩
  · rw [hk71]
    refine own_go (A := s₁.setTop (mkF m 7 #[.val (.int p1), .unset, .unset, .unset] [(.int (9 : Int32))])) (B := s₁.setTop (mkF m 9 #[.val (.int p1), .val (.int (9 : Int32)), .unset, .unset] [(.int (9 : Int32))])) (fun t k => ?_) ?_
    · show Steps p.tables e below (s₁.setTop (mkF m 7 #[.val (.int p1), .unset, .unset, .unset] [(.int (9 : Int32))])) _
      refine XS.istoreN X0.here hx rfl (hb hby at_7) rfl (l' := #[.val (.int p1), .val (.int (9 : Int32)), .unset, .unset]) rfl ?_
      show Steps p.tables e below (s₁.setTop (mkF m 8 #[.val (.int p1), .val (.int (9 : Int32)), .unset, .unset] [])) _
      refine XS.iloadN X0.here hx rfl (hb hby at_8) rfl ?_
      exact k
    obtain ⟨_, _, ⟨T108, L108, k108, n108⟩, -, X108, ⟨Lc108, hQ108, l108, y108, z108⟩, st108⟩ := Jvm.LawKit.callS X0 hx (y := (⟨"com/example/portunus/portunus/model/AttributeTypeIsScalarPinLaw", "pick", "(I)Lcom/example/portunus/portunus/model/AttributeType;"⟩ : MethodName)) hown (mvT hZ (hw _ (List.mem_of_getElem? (i := 1) rfl))) (mvT hZ (hw _ (List.mem_of_getElem? (i := 2) rfl))) (mvT hZ (hw _ (List.mem_of_getElem? (i := 3) rfl))) (mvT hZ (hw _ (List.mem_of_getElem? (i := 4) rfl))) (by decide) (backOf (W := 0) (rm1_9 l Z a0 hw [] s_AttributeType_NULL h0 n0 Z0 P18) hZ (hw _ (List.mem_of_getElem? (i := 4) rfl)) (hw _ (List.mem_of_getElem? (i := 3) rfl)) (by decide) (by decide)) (g := (mkF m 9 #[.val (.int p1), .val (.int (9 : Int32)), .unset, .unset] [(.int (9 : Int32))])) rfl (by rw [hml]; rfl) (argsL := [(.int (9 : Int32))]) (rest := []) (lenOf pd_0 rfl) rfl (by show 2 * 0 + _ ≤ _; exact Nat.le_of_eq rfl) (hb hby at_9) (fun _ _ => ⟨rfl, e0, (by decide : 0 + 0 ≤ _), (by decide : 0 + 0 ≤ _)⟩)
    dsimp only [Pt.U, Pt.locs, Pt.cells, Pt.slots] at X108 l108 y108 z108 st108 hQ108
    subst l108 y108 z108
    obtain ⟨rfl, Nq108, e108⟩ := hQ108
    have N108 := Fr.app N0 Nq108
    refine own_go (A := _) (B := T108.setTop (mkF m 12 #[.val (.int p1), .val (.int (9 : Int32)), .unset, .unset] [(.ref s_AttributeType_NULL)])) st108 ?_
    refine own_go (A := T108.setTop (mkF m 12 #[.val (.int p1), .val (.int (9 : Int32)), .unset, .unset] [(.ref s_AttributeType_NULL)])) (B := T108.setTop (mkF m 25 #[.val (.int p1), .val (.int (9 : Int32)), .val (.ref s_AttributeType_NULL), .val (.int (0 : Int32))] [(.ref s_AttributeType_NULL)])) (fun t k => ?_) ?_
    · show Steps p.tables e below (T108.setTop (mkF m 12 #[.val (.int p1), .val (.int (9 : Int32)), .unset, .unset] [(.ref s_AttributeType_NULL)])) _
      refine XS.astoreN X108.here hx rfl (hb hby at_12) rfl rfl (l' := #[.val (.int p1), .val (.int (9 : Int32)), .val (.ref s_AttributeType_NULL), .unset]) rfl ?_
      show Steps p.tables e below (T108.setTop (mkF m 13 #[.val (.int p1), .val (.int (9 : Int32)), .val (.ref s_AttributeType_NULL), .unset] [])) _
      refine XS.iloadN X108.here hx rfl (hb hby at_13) rfl ?_
      show Steps p.tables e below (T108.setTop (mkF m 14 #[.val (.int p1), .val (.int (9 : Int32)), .val (.ref s_AttributeType_NULL), .unset] [(.int (9 : Int32))])) _
      refine XS.iconst X108.here hx rfl (hb hby at_14) ?_
      show Steps p.tables e below (T108.setTop (mkF m 15 #[.val (.int p1), .val (.int (9 : Int32)), .val (.ref s_AttributeType_NULL), .unset] [(.int (3 : Int32)), (.int (9 : Int32))])) _
      refine XS.icmpYes X108.here hx rfl (pc0 := 15) (pc' := 22) rfl (hb hby at_15) rfl (flt (by decide : ¬ ((9 : Int32) < (3 : Int32)))).2.1 (by decide) (by decide) ?_
      show Steps p.tables e below (T108.setTop (mkF m 22 #[.val (.int p1), .val (.int (9 : Int32)), .val (.ref s_AttributeType_NULL), .unset] [])) _
      refine XS.iconst X108.here hx rfl (hb hby at_22) ?_
      show Steps p.tables e below (T108.setTop (mkF m 23 #[.val (.int p1), .val (.int (9 : Int32)), .val (.ref s_AttributeType_NULL), .unset] [(.int (0 : Int32))])) _
      refine XS.istoreN X108.here hx rfl (hb hby at_23) rfl (l' := #[.val (.int p1), .val (.int (9 : Int32)), .val (.ref s_AttributeType_NULL), .val (.int (0 : Int32))]) rfl ?_
      show Steps p.tables e below (T108.setTop (mkF m 24 #[.val (.int p1), .val (.int (9 : Int32)), .val (.ref s_AttributeType_NULL), .val (.int (0 : Int32))] [])) _
      refine XS.aloadN X108.here hx rfl (hb hby at_24) rfl rfl ?_
      exact k
    obtain ⟨cq110, kq110, q110a, q110b, q110c⟩ := isOf hZ e108 P19
    obtain ⟨_, _, ⟨T110, L110, k110, n110⟩, -, X110, ⟨Lc110, hQ110, l110, y110, z110⟩, st110⟩ := X108.virtualBack hx (y := (⟨"com/example/portunus/portunus/model/AttributeType", "isScalar", "()Z"⟩ : MethodName)) (z := (⟨"com/example/portunus/portunus/model/AttributeType", "isScalar", "()Z"⟩ : MethodName)) hown (mvT hZ (hw _ (List.mem_of_getElem? (i := 8) rfl))) (mvT hZ (hw _ (List.mem_of_getElem? (i := 9) rfl))) (notFace_of_selects (args := #[]) (mvT hZ (hw _ (List.mem_of_getElem? (i := 11) rfl)))) (mvT hZ (hw _ (List.mem_of_getElem? (i := 11) rfl))) (mvT hZ (hw _ (List.mem_of_getElem? (i := 10) rfl))) (by decide) (backOf (W := 0) (rm2 l Z a0 hw [] s_AttributeType_NULL s_AttributeType_S s_AttributeType_N s_AttributeType_B h0 n0 Z0 P0 P2 P4) hZ (hw _ (List.mem_of_getElem? (i := 12) rfl)) (hw _ (List.mem_of_getElem? (i := 6) rfl)) (by decide) (by decide)) q110a q110c (g := (mkF m 25 #[.val (.int p1), .val (.int (9 : Int32)), .val (.ref s_AttributeType_NULL), .val (.int (0 : Int32))] [(.ref s_AttributeType_NULL)])) rfl (by rw [hml]; rfl) (Steps.refl _) (argsL := []) (rest := []) (lenOf pd_1 rfl) rfl (by show 2 * 0 + _ ≤ _; exact Nat.le_of_eq rfl) (hb hby at_25) (fun _ _ => ⟨rfl, e108, (by decide : 0 + 0 ≤ _), (by decide : 0 + 0 ≤ _)⟩)
    dsimp only [Pt.U, Pt.locs, Pt.cells, Pt.slots] at X110 l110 y110 z110 st110 hQ110
    subst l110 y110 z110
    obtain ⟨rfl, Nq110, e110⟩ := hQ110
    have N110 := Fr.app N108 Nq110
    refine own_go (A := _) (B := T110.setTop (mkF m 28 #[.val (.int p1), .val (.int (9 : Int32)), .val (.ref s_AttributeType_NULL), .val (.int (0 : Int32))] [(.int (frm2 s_AttributeType_NULL s_AttributeType_S s_AttributeType_N s_AttributeType_B))])) (fun t k => st110.trans k) ?_
    refine own_go (A := T110.setTop (mkF m 28 #[.val (.int p1), .val (.int (9 : Int32)), .val (.ref s_AttributeType_NULL), .val (.int (0 : Int32))] [(.int (frm2 s_AttributeType_NULL s_AttributeType_S s_AttributeType_N s_AttributeType_B))])) (B := T110.setTop (mkF m 29 #[.val (.int p1), .val (.int (9 : Int32)), .val (.ref s_AttributeType_NULL), .val (.int (0 : Int32))] [(.int (0 : Int32)), (.int (frm2 s_AttributeType_NULL s_AttributeType_S s_AttributeType_N s_AttributeType_B))])) (fun t k => ?_) ?_
    · show Steps p.tables e below (T110.setTop (mkF m 28 #[.val (.int p1), .val (.int (9 : Int32)), .val (.ref s_AttributeType_NULL), .val (.int (0 : Int32))] [(.int (frm2 s_AttributeType_NULL s_AttributeType_S s_AttributeType_N s_AttributeType_B))])) _
      refine XS.iloadN X110.here hx rfl (hb hby at_28) rfl ?_
      exact k
    have hc29_111 : ((frm2 s_AttributeType_NULL s_AttributeType_S s_AttributeType_N s_AttributeType_B) = (0 : Int32)) := by simp [frm2, ne_s_AttributeType_NULL_s_AttributeType_S, ne_s_AttributeType_NULL_s_AttributeType_N, ne_s_AttributeType_NULL_s_AttributeType_B]
    refine own_go (A := T110.setTop (mkF m 29 #[.val (.int p1), .val (.int (9 : Int32)), .val (.ref s_AttributeType_NULL), .val (.int (0 : Int32))] [(.int (0 : Int32)), (.int (frm2 s_AttributeType_NULL s_AttributeType_S s_AttributeType_N s_AttributeType_B))])) (B := T110.setTop (mkF m 37 #[.val (.int p1), .val (.int (9 : Int32)), .val (.ref s_AttributeType_NULL), .val (.int (0 : Int32))] [(.int (1 : Int32))])) (fun t k => ?_) ?_
    · show Steps p.tables e below (T110.setTop (mkF m 29 #[.val (.int p1), .val (.int (9 : Int32)), .val (.ref s_AttributeType_NULL), .val (.int (0 : Int32))] [(.int (0 : Int32)), (.int (frm2 s_AttributeType_NULL s_AttributeType_S s_AttributeType_N s_AttributeType_B))])) _
      refine XS.icmpNo X110.here hx rfl (hb hby at_29) rfl (teq hc29_111).2 ?_
      show Steps p.tables e below (T110.setTop (mkF m 32 #[.val (.int p1), .val (.int (9 : Int32)), .val (.ref s_AttributeType_NULL), .val (.int (0 : Int32))] [])) _
      refine XS.iconst X110.here hx rfl (hb hby at_32) ?_
      show Steps p.tables e below (T110.setTop (mkF m 33 #[.val (.int p1), .val (.int (9 : Int32)), .val (.ref s_AttributeType_NULL), .val (.int (0 : Int32))] [(.int (1 : Int32))])) _
      refine XS.goto X110.here hx rfl (pc0 := 33) (pc' := 37) rfl (hb hby at_33) (by decide) (by decide) ?_
      exact k
    obtain ⟨fs, hr, hrun, hended, hW, hsame⟩ := X110.leave (v := some (.int (1 : Int32))) (fun h => by rw [Bd.returns] at h; cases h)
    refine ⟨_, _, ?_, hrun, hended, _, _, rfl, ?_, ⟨_, rfl⟩, hW, hsame.mono (by decide) (by decide)⟩
    · show Steps p.tables e below (T110.setTop (mkF m 37 #[.val (.int p1), .val (.int (9 : Int32)), .val (.ref s_AttributeType_NULL), .val (.int (0 : Int32))] [(.int (1 : Int32))])) _
      exact retN X110 hx (t := .boolean) Bd.returns (by simp) (hb hby at_37) hr
    · show Qrm0 Z p1 s_AttributeType_S s_AttributeType_N s_AttributeType_B s_AttributeType_SS s_AttributeType_NS s_AttributeType_BS s_AttributeType_M s_AttributeType_L s_AttributeType_BOOL s_AttributeType_NULL h0 n0 _ T110.heap _
      rw [e110]
      exact ⟨rfl, N110⟩
set_option maxRecDepth 65536 in
set_option maxHeartbeats 40000000 in
theorem comes_1 {Post : Tables → Env → Array Value → State → Outcome → State → Prop} (hpost : ∀ tb e args s v u, (limb_1_1.after args s (.returned v) u = true ∧ limb_1_2.after args s (.returned v) u = true ∧ True) → FrameEnd s (.returned v) u (Jvm.fieldLocs frame_1_writes args s ++ Jvm.arrayLocs frame_1_arrays args s ++ Jvm.staticLocs frame_1_statics s) 0 0 → Post tb e args s (.returned v) u) :
    ArmFor flags0 classFile x code maxLocals ret World_1 tables_1 room_1 Calls_1 rest_1 Pre_1 Post := by
  intro l hfl _ _ p e ha hc hk s m args below hf hA hF happ hP
  obtain ⟨hcalls, hrest, hpre⟩ := hP
  obtain ⟨-, -, -, hnamed, -, -, -, hat⟩ := (Spec.applies_iff hf).mp happ
  obtain ⟨hg, hn⟩ := and_e (Cond.before_iff.mp (show (Jvm.Cond.and given_1 narrow_1).before args s = true from hpre))
  obtain ⟨hg0, hgs⟩ := and_e hg
  obtain ⟨w0, rfl⟩ : ∃ w0 : Value, args = #[w0] := by
    have hs : args.size = 1 := by simpa [Cond.value, given_1] using hg0
    obtain ⟨L⟩ := args
    match L, hs with
    | [w0], _ => exact ⟨w0, rfl⟩
  have hw := fun d (hd : d ∈ tables_1) => atoms_spec (ws := Jvm.Cond.code x code maxLocals ret :: tables_1) hat d (List.mem_cons_of_mem _ hd)
  have hfit : Fit s := fun {y c} hc i hi => by
    obtain ⟨ha, rfl⟩ := Array.getElem?_eq_some_iff.mp hc
    have q := List.all_eq_true.mp ((Array.all_eq_true_iff_forall_mem.mp hF) _ (Array.getElem_mem ha)) i (List.mem_range.mpr hi)
    simpa [Array.getElem?_eq_getElem hi] using q
  obtain ⟨i0, ei0⟩ := is_v hgs
  obtain rfl : w0 = (.int i0) := Option.some.inj ei0
  obtain ⟨nw0, nr0⟩ := and_e hn
  obtain ⟨nw1, nr1⟩ := and_e nr0
  obtain ⟨nw2, nr2⟩ := and_e nr1
  obtain ⟨nw3, nr3⟩ := and_e nr2
  obtain ⟨nw4, nr4⟩ := and_e nr3
  obtain ⟨nw5, nr5⟩ := and_e nr4
  obtain ⟨nw6, nr6⟩ := and_e nr5
  obtain ⟨nw7, nr7⟩ := and_e nr6
  obtain ⟨nw8, nr8⟩ := and_e nr7
  obtain ⟨nw9, nr9⟩ := and_e nr8
  obtain ⟨nw10, nr10⟩ := and_e nr9
  obtain ⟨nw11, nr11⟩ := and_e nr10
  obtain ⟨nw12, nr12⟩ := and_e nr11
  obtain ⟨nw13, nr13⟩ := and_e nr12
  obtain ⟨nw14, nr14⟩ := and_e nr13
  obtain ⟨nw15, nr15⟩ := and_e nr14
  obtain ⟨nw16, nr16⟩ := and_e nr15
  obtain ⟨nw17, nr17⟩ := and_e nr16
  obtain ⟨nw18, nr18⟩ := and_e nr17
  obtain ⟨s_AttributeType_S, ev_s_AttributeType_S⟩ := exa_v nw0
  have S_s_AttributeType_S : Sta s s.heap "com/example/portunus/portunus/model/AttributeType" "S" "Lcom/example/portunus/portunus/model/AttributeType;" (.ref s_AttributeType_S) := Sta.start ev_s_AttributeType_S (Or.inr ⟨(hw _ (List.mem_of_getElem? (i := 6) rfl)), (hw _ (List.mem_of_getElem? (i := 7) rfl))⟩)
  have E_s_AttributeType_S : Exa s s.heap s_AttributeType_S "com/example/portunus/portunus/model/AttributeType" := Exa.start ev_s_AttributeType_S nw0
  obtain ⟨s_AttributeType_SS, ev_s_AttributeType_SS⟩ := exa_v nw1
  have S_s_AttributeType_SS : Sta s s.heap "com/example/portunus/portunus/model/AttributeType" "SS" "Lcom/example/portunus/portunus/model/AttributeType;" (.ref s_AttributeType_SS) := Sta.start ev_s_AttributeType_SS (Or.inr ⟨(hw _ (List.mem_of_getElem? (i := 6) rfl)), (hw _ (List.mem_of_getElem? (i := 15) rfl))⟩)
  have E_s_AttributeType_SS : Exa s s.heap s_AttributeType_SS "com/example/portunus/portunus/model/AttributeType" := Exa.start ev_s_AttributeType_SS nw1
  obtain ⟨s_AttributeType_N, ev_s_AttributeType_N⟩ := exa_v nw4
  have S_s_AttributeType_N : Sta s s.heap "com/example/portunus/portunus/model/AttributeType" "N" "Lcom/example/portunus/portunus/model/AttributeType;" (.ref s_AttributeType_N) := Sta.start ev_s_AttributeType_N (Or.inr ⟨(hw _ (List.mem_of_getElem? (i := 6) rfl)), (hw _ (List.mem_of_getElem? (i := 17) rfl))⟩)
  have E_s_AttributeType_N : Exa s s.heap s_AttributeType_N "com/example/portunus/portunus/model/AttributeType" := Exa.start ev_s_AttributeType_N nw4
  obtain ⟨s_AttributeType_B, ev_s_AttributeType_B⟩ := exa_v nw6
  have S_s_AttributeType_B : Sta s s.heap "com/example/portunus/portunus/model/AttributeType" "B" "Lcom/example/portunus/portunus/model/AttributeType;" (.ref s_AttributeType_B) := Sta.start ev_s_AttributeType_B (Or.inr ⟨(hw _ (List.mem_of_getElem? (i := 6) rfl)), (hw _ (List.mem_of_getElem? (i := 19) rfl))⟩)
  have E_s_AttributeType_B : Exa s s.heap s_AttributeType_B "com/example/portunus/portunus/model/AttributeType" := Exa.start ev_s_AttributeType_B nw6
  obtain ⟨s_AttributeType_NS, ev_s_AttributeType_NS⟩ := exa_v nw8
  have S_s_AttributeType_NS : Sta s s.heap "com/example/portunus/portunus/model/AttributeType" "NS" "Lcom/example/portunus/portunus/model/AttributeType;" (.ref s_AttributeType_NS) := Sta.start ev_s_AttributeType_NS (Or.inr ⟨(hw _ (List.mem_of_getElem? (i := 6) rfl)), (hw _ (List.mem_of_getElem? (i := 22) rfl))⟩)
  have E_s_AttributeType_NS : Exa s s.heap s_AttributeType_NS "com/example/portunus/portunus/model/AttributeType" := Exa.start ev_s_AttributeType_NS nw8
  obtain ⟨s_AttributeType_L, ev_s_AttributeType_L⟩ := exa_v nw10
  have S_s_AttributeType_L : Sta s s.heap "com/example/portunus/portunus/model/AttributeType" "L" "Lcom/example/portunus/portunus/model/AttributeType;" (.ref s_AttributeType_L) := Sta.start ev_s_AttributeType_L (Or.inr ⟨(hw _ (List.mem_of_getElem? (i := 6) rfl)), (hw _ (List.mem_of_getElem? (i := 24) rfl))⟩)
  have E_s_AttributeType_L : Exa s s.heap s_AttributeType_L "com/example/portunus/portunus/model/AttributeType" := Exa.start ev_s_AttributeType_L nw10
  obtain ⟨s_AttributeType_BOOL, ev_s_AttributeType_BOOL⟩ := exa_v nw12
  have S_s_AttributeType_BOOL : Sta s s.heap "com/example/portunus/portunus/model/AttributeType" "BOOL" "Lcom/example/portunus/portunus/model/AttributeType;" (.ref s_AttributeType_BOOL) := Sta.start ev_s_AttributeType_BOOL (Or.inr ⟨(hw _ (List.mem_of_getElem? (i := 6) rfl)), (hw _ (List.mem_of_getElem? (i := 27) rfl))⟩)
  have E_s_AttributeType_BOOL : Exa s s.heap s_AttributeType_BOOL "com/example/portunus/portunus/model/AttributeType" := Exa.start ev_s_AttributeType_BOOL nw12
  obtain ⟨s_AttributeType_NULL, ev_s_AttributeType_NULL⟩ := exa_v nw14
  have S_s_AttributeType_NULL : Sta s s.heap "com/example/portunus/portunus/model/AttributeType" "NULL" "Lcom/example/portunus/portunus/model/AttributeType;" (.ref s_AttributeType_NULL) := Sta.start ev_s_AttributeType_NULL (Or.inr ⟨(hw _ (List.mem_of_getElem? (i := 6) rfl)), (hw _ (List.mem_of_getElem? (i := 29) rfl))⟩)
  have E_s_AttributeType_NULL : Exa s s.heap s_AttributeType_NULL "com/example/portunus/portunus/model/AttributeType" := Exa.start ev_s_AttributeType_NULL nw14
  obtain ⟨s_AttributeType_BS, ev_s_AttributeType_BS⟩ := exa_v nw16
  have S_s_AttributeType_BS : Sta s s.heap "com/example/portunus/portunus/model/AttributeType" "BS" "Lcom/example/portunus/portunus/model/AttributeType;" (.ref s_AttributeType_BS) := Sta.start ev_s_AttributeType_BS (Or.inr ⟨(hw _ (List.mem_of_getElem? (i := 6) rfl)), (hw _ (List.mem_of_getElem? (i := 31) rfl))⟩)
  have E_s_AttributeType_BS : Exa s s.heap s_AttributeType_BS "com/example/portunus/portunus/model/AttributeType" := Exa.start ev_s_AttributeType_BS nw16
  obtain ⟨s_AttributeType_M, ev_s_AttributeType_M⟩ := exa_v nw18
  have S_s_AttributeType_M : Sta s s.heap "com/example/portunus/portunus/model/AttributeType" "M" "Lcom/example/portunus/portunus/model/AttributeType;" (.ref s_AttributeType_M) := Sta.start ev_s_AttributeType_M (Or.inr ⟨(hw _ (List.mem_of_getElem? (i := 6) rfl)), (hw _ (List.mem_of_getElem? (i := 33) rfl))⟩)
  have E_s_AttributeType_M : Exa s s.heap s_AttributeType_M "com/example/portunus/portunus/model/AttributeType" := Exa.start ev_s_AttributeType_M nw18
  have O_s_AttributeType_SS : Fld s s.heap s_AttributeType_SS "java/lang/Enum" "ordinal" "I" (.int (3 : Int32)) := Fld.start ((fld_at ev_s_AttributeType_SS).symm.trans (own_eqint nw2))
  have O_s_AttributeType_S : Fld s s.heap s_AttributeType_S "java/lang/Enum" "ordinal" "I" (.int (0 : Int32)) := Fld.start ((fld_at ev_s_AttributeType_S).symm.trans (own_eqint nw3))
  have O_s_AttributeType_N : Fld s s.heap s_AttributeType_N "java/lang/Enum" "ordinal" "I" (.int (1 : Int32)) := Fld.start ((fld_at ev_s_AttributeType_N).symm.trans (own_eqint nw5))
  have O_s_AttributeType_B : Fld s s.heap s_AttributeType_B "java/lang/Enum" "ordinal" "I" (.int (2 : Int32)) := Fld.start ((fld_at ev_s_AttributeType_B).symm.trans (own_eqint nw7))
  have O_s_AttributeType_NS : Fld s s.heap s_AttributeType_NS "java/lang/Enum" "ordinal" "I" (.int (4 : Int32)) := Fld.start ((fld_at ev_s_AttributeType_NS).symm.trans (own_eqint nw9))
  have O_s_AttributeType_L : Fld s s.heap s_AttributeType_L "java/lang/Enum" "ordinal" "I" (.int (7 : Int32)) := Fld.start ((fld_at ev_s_AttributeType_L).symm.trans (own_eqint nw11))
  have O_s_AttributeType_BOOL : Fld s s.heap s_AttributeType_BOOL "java/lang/Enum" "ordinal" "I" (.int (8 : Int32)) := Fld.start ((fld_at ev_s_AttributeType_BOOL).symm.trans (own_eqint nw13))
  have O_s_AttributeType_NULL : Fld s s.heap s_AttributeType_NULL "java/lang/Enum" "ordinal" "I" (.int (9 : Int32)) := Fld.start ((fld_at ev_s_AttributeType_NULL).symm.trans (own_eqint nw15))
  have O_s_AttributeType_BS : Fld s s.heap s_AttributeType_BS "java/lang/Enum" "ordinal" "I" (.int (5 : Int32)) := Fld.start ((fld_at ev_s_AttributeType_BS).symm.trans (own_eqint nw17))
  have O_s_AttributeType_M : Fld s s.heap s_AttributeType_M "java/lang/Enum" "ordinal" "I" (.int (6 : Int32)) := Fld.start ((fld_at ev_s_AttributeType_M).symm.trans (own_eqint nr18))
  have ne_s_AttributeType_N_s_AttributeType_S : s_AttributeType_N ≠ s_AttributeType_S := Fld.ne O_s_AttributeType_N O_s_AttributeType_S (by simp)
  have ne_s_AttributeType_B_s_AttributeType_S : s_AttributeType_B ≠ s_AttributeType_S := Fld.ne O_s_AttributeType_B O_s_AttributeType_S (by simp)
  have ne_s_AttributeType_B_s_AttributeType_N : s_AttributeType_B ≠ s_AttributeType_N := Fld.ne O_s_AttributeType_B O_s_AttributeType_N (by simp)
  have ne_s_AttributeType_SS_s_AttributeType_S : s_AttributeType_SS ≠ s_AttributeType_S := Fld.ne O_s_AttributeType_SS O_s_AttributeType_S (by simp)
  have ne_s_AttributeType_SS_s_AttributeType_N : s_AttributeType_SS ≠ s_AttributeType_N := Fld.ne O_s_AttributeType_SS O_s_AttributeType_N (by simp)
  have ne_s_AttributeType_SS_s_AttributeType_B : s_AttributeType_SS ≠ s_AttributeType_B := Fld.ne O_s_AttributeType_SS O_s_AttributeType_B (by simp)
  have ne_s_AttributeType_NS_s_AttributeType_S : s_AttributeType_NS ≠ s_AttributeType_S := Fld.ne O_s_AttributeType_NS O_s_AttributeType_S (by simp)
  have ne_s_AttributeType_NS_s_AttributeType_N : s_AttributeType_NS ≠ s_AttributeType_N := Fld.ne O_s_AttributeType_NS O_s_AttributeType_N (by simp)
  have ne_s_AttributeType_NS_s_AttributeType_B : s_AttributeType_NS ≠ s_AttributeType_B := Fld.ne O_s_AttributeType_NS O_s_AttributeType_B (by simp)
  have ne_s_AttributeType_BS_s_AttributeType_S : s_AttributeType_BS ≠ s_AttributeType_S := Fld.ne O_s_AttributeType_BS O_s_AttributeType_S (by simp)
  have ne_s_AttributeType_BS_s_AttributeType_N : s_AttributeType_BS ≠ s_AttributeType_N := Fld.ne O_s_AttributeType_BS O_s_AttributeType_N (by simp)
  have ne_s_AttributeType_BS_s_AttributeType_B : s_AttributeType_BS ≠ s_AttributeType_B := Fld.ne O_s_AttributeType_BS O_s_AttributeType_B (by simp)
  have ne_s_AttributeType_M_s_AttributeType_S : s_AttributeType_M ≠ s_AttributeType_S := Fld.ne O_s_AttributeType_M O_s_AttributeType_S (by simp)
  have ne_s_AttributeType_M_s_AttributeType_N : s_AttributeType_M ≠ s_AttributeType_N := Fld.ne O_s_AttributeType_M O_s_AttributeType_N (by simp)
  have ne_s_AttributeType_M_s_AttributeType_B : s_AttributeType_M ≠ s_AttributeType_B := Fld.ne O_s_AttributeType_M O_s_AttributeType_B (by simp)
  have ne_s_AttributeType_L_s_AttributeType_S : s_AttributeType_L ≠ s_AttributeType_S := Fld.ne O_s_AttributeType_L O_s_AttributeType_S (by simp)
  have ne_s_AttributeType_L_s_AttributeType_N : s_AttributeType_L ≠ s_AttributeType_N := Fld.ne O_s_AttributeType_L O_s_AttributeType_N (by simp)
  have ne_s_AttributeType_L_s_AttributeType_B : s_AttributeType_L ≠ s_AttributeType_B := Fld.ne O_s_AttributeType_L O_s_AttributeType_B (by simp)
  have ne_s_AttributeType_BOOL_s_AttributeType_S : s_AttributeType_BOOL ≠ s_AttributeType_S := Fld.ne O_s_AttributeType_BOOL O_s_AttributeType_S (by simp)
  have ne_s_AttributeType_BOOL_s_AttributeType_N : s_AttributeType_BOOL ≠ s_AttributeType_N := Fld.ne O_s_AttributeType_BOOL O_s_AttributeType_N (by simp)
  have ne_s_AttributeType_BOOL_s_AttributeType_B : s_AttributeType_BOOL ≠ s_AttributeType_B := Fld.ne O_s_AttributeType_BOOL O_s_AttributeType_B (by simp)
  have ne_s_AttributeType_NULL_s_AttributeType_S : s_AttributeType_NULL ≠ s_AttributeType_S := Fld.ne O_s_AttributeType_NULL O_s_AttributeType_S (by simp)
  have ne_s_AttributeType_NULL_s_AttributeType_N : s_AttributeType_NULL ≠ s_AttributeType_N := Fld.ne O_s_AttributeType_NULL O_s_AttributeType_N (by simp)
  have ne_s_AttributeType_NULL_s_AttributeType_B : s_AttributeType_NULL ≠ s_AttributeType_B := Fld.ne O_s_AttributeType_NULL O_s_AttributeType_B (by simp)
  obtain ⟨n, o, h1, h2, h3, _, L, rfl, ⟨hv, N⟩, hq⟩ := rm0 l s _ hw tables_1 i0 s_AttributeType_S s_AttributeType_N s_AttributeType_B s_AttributeType_SS s_AttributeType_NS s_AttributeType_BS s_AttributeType_M s_AttributeType_L s_AttributeType_BOOL s_AttributeType_NULL s.heap s.heap.size (Nat.le_refl _) S_s_AttributeType_S E_s_AttributeType_S S_s_AttributeType_N E_s_AttributeType_N S_s_AttributeType_B E_s_AttributeType_B S_s_AttributeType_SS E_s_AttributeType_SS S_s_AttributeType_NS E_s_AttributeType_NS S_s_AttributeType_BS E_s_AttributeType_BS S_s_AttributeType_M E_s_AttributeType_M S_s_AttributeType_L E_s_AttributeType_L S_s_AttributeType_BOOL E_s_AttributeType_BOOL S_s_AttributeType_NULL E_s_AttributeType_NULL ne_s_AttributeType_N_s_AttributeType_S ne_s_AttributeType_B_s_AttributeType_S ne_s_AttributeType_B_s_AttributeType_N ne_s_AttributeType_SS_s_AttributeType_S ne_s_AttributeType_SS_s_AttributeType_N ne_s_AttributeType_SS_s_AttributeType_B ne_s_AttributeType_NS_s_AttributeType_S ne_s_AttributeType_NS_s_AttributeType_N ne_s_AttributeType_NS_s_AttributeType_B ne_s_AttributeType_BS_s_AttributeType_S ne_s_AttributeType_BS_s_AttributeType_N ne_s_AttributeType_BS_s_AttributeType_B ne_s_AttributeType_M_s_AttributeType_S ne_s_AttributeType_M_s_AttributeType_N ne_s_AttributeType_M_s_AttributeType_B ne_s_AttributeType_L_s_AttributeType_S ne_s_AttributeType_L_s_AttributeType_N ne_s_AttributeType_L_s_AttributeType_B ne_s_AttributeType_BOOL_s_AttributeType_S ne_s_AttributeType_BOOL_s_AttributeType_N ne_s_AttributeType_BOOL_s_AttributeType_B ne_s_AttributeType_NULL_s_AttributeType_S ne_s_AttributeType_NULL_s_AttributeType_N ne_s_AttributeType_NULL_s_AttributeType_B p e ha hc hk s m _ below hf ((Spec.applies_iff_loose hf).mp happ).1 ⟨rfl, State.Warmed39.refl s, rfl⟩ trivial
  obtain rfl := hv
  refine ⟨n, _, h1, h2, h3, hpost _ _ _ _ _ _ ⟨Cond.after_iff.mpr rfl, Cond.after_iff.mpr (eq_i res_at (Term.int_eval (1)) rfl), trivial⟩ ⟨hq.1, hq.2.1, (hq.2.2.sift fun y hy => Or.inr (N y hy)).mono (by decide) (by decide)⟩⟩
theorem main_1_1 : Claimed_1_1 := comes_1 fun _ _ _ _ _ _ h hF => ⟨h.1, hF⟩
theorem main_1_2 : Claimed_1_2 := comes_1 fun _ _ _ _ _ _ h hF => ⟨h.2.1, hF⟩
end Jvm.Pilot.@@N@@
namespace Jvm.Pilot.@@N@@
open Jvm Jvm.ClassFile Sem Op Lib Jvm.Free Jvm.Stand Jvm.Pilot.@@N@@.Jvm.D
/-! MADE BY PROGRAM (witnessworld.py) out of the Statement's table words and the real class files: 12 classes; the members and pool entries that the words name. The judged class is class 1, her method 1. -/
namespace start1
open Jvm.ClassFile
def u (s : String) : CpInfo := .utf8 (stringToUtf16 s)
/-- a pool by its gaps: so many unusable entries, then the entry; so many at the end -/
def gap : Nat → List CpInfo → List CpInfo
  | 0, r => r
  | n + 1, r => .unusable :: gap n r
def poolList (es : List (Nat × CpInfo)) (last : Nat) : List CpInfo := es.foldr (fun e r => gap e.1 (e.2 :: r)) (gap last [])
def pool (es : List (Nat × CpInfo)) (last : Nat) : Array CpInfo := ⟨poolList es last⟩
def fileOf (pool : Array CpInfo) (this : Nat) (attrs : Array Attribute := #[]) (ms : Array MethodInfo := #[]) (fl : Nat := 33) (sup : Nat := 0) (ifs : Array Nat := #[]) (fds : Array FieldInfo := #[]) : ClassFile where
  minorVersion := 0
  majorVersion := 65
  constantPool := pool
  accessFlags := fl
  thisClass := this
  superClass := sup
  interfaces := ifs
  fields := fds
  methods := ms
  attributes := attrs
def plain (name : String) (sup : Option ClassId) : Class where
  name := name
  kind := .ordinary
  loader := none
  accessFlags := 33
  super := sup
  interfaces := #[]
  cf := none
  fields := #[]
  methods := #[]
  instanceTypes := #[]
  staticTypes := #[]
  resolved := #[]
  callSites := []
  init := .initialized
  statics := none
  mirror := none

def pool0 : Array CpInfo := pool [(5, u "<init>"), (0, u "()V"), (1, .class_ 10), (1, u "java/lang/Object")] 113

def k0m0 : Method := { name := "<init>", desc := "()V", sig := { parameters := [], returnType := none }, accessFlags := 1, code := none }
/-- java/lang/Object -/
def k0 : Class := { plain "java/lang/Object" none with
  accessFlags := 33
  interfaces := #[]
  cf := some (fileOf pool0 8 #[] #[{ accessFlags := 1, nameIndex := 5, descriptorIndex := 6, attributes := #[] }] 33 0 #[] #[])
  fields := #[]
  methods := #[k0m0]
  instanceTypes := #[]
  staticTypes := #[]
  resolved := Array.replicate 124 none
  statics := none }

def pool1 : Array CpInfo := pool [(2, .class_ 4), (1, u "java/lang/Object"), (0, u "<init>"), (0, u "()V"), (0, .integer 2147483647), (0, .methodref 9 10), (0, .class_ 11), (0, .nameAndType 12 13), (0, u "com/example/portunus/portunus/model/AttributeTypeIsScalarPinLaw"), (0, u "pick"), (0, u "(I)Lcom/example/portunus/portunus/model/AttributeType;"), (0, .methodref 15 16), (0, .class_ 17), (0, .nameAndType 18 19), (0, u "com/example/portunus/portunus/model/AttributeType"), (0, u "isScalar"), (0, u "()Z"), (0, .fieldref 15 21), (0, .nameAndType 22 23), (0, u "S"), (0, u "Lcom/example/portunus/portunus/model/AttributeType;"), (0, .fieldref 15 25), (0, .nameAndType 26 23), (0, u "N"), (0, .fieldref 15 28), (0, .nameAndType 29 23), (0, u "B"), (0, .fieldref 15 31), (0, .nameAndType 32 23), (0, u "SS"), (0, .fieldref 15 34), (0, .nameAndType 35 23), (0, u "NS"), (0, .fieldref 15 37), (0, .nameAndType 38 23), (0, u "BS"), (0, .fieldref 15 40), (0, .nameAndType 41 23), (0, u "M"), (0, .fieldref 15 43), (0, .nameAndType 44 23), (0, u "L"), (0, .fieldref 15 46), (0, .nameAndType 47 23), (0, u "BOOL"), (0, .fieldref 15 49), (0, .nameAndType 50 23), (0, u "NULL"), (2, u "law"), (0, u "(I)Z")] 3

def k1m0 : Method := { name := "<init>", desc := "()V", sig := { parameters := [], returnType := none }, accessFlags := 1, code := none }
def k1c1 : Code := { maxStack := 2, maxLocals := 4, code := code, exceptionTable := #[], attributes := #[] }
def k1m1 : Method := { name := "law", desc := "(I)Z", sig := { parameters := [.int], returnType := some .boolean }, accessFlags := 9, code := some k1c1 }
def k1c2 : Code := { maxStack := 2, maxLocals := 1, code := method_3_code, exceptionTable := #[], attributes := #[] }
def k1m2 : Method := { name := "pick", desc := "(I)Lcom/example/portunus/portunus/model/AttributeType;", sig := { parameters := [.int], returnType := some (.object "com/example/portunus/portunus/model/AttributeType") }, accessFlags := 10, code := some k1c2 }
/-- com/example/portunus/portunus/model/AttributeTypeIsScalarPinLaw -/
def k1 : Class := { plain "com/example/portunus/portunus/model/AttributeTypeIsScalarPinLaw" (some 0) with
  accessFlags := 49
  interfaces := #[]
  cf := some (fileOf pool1 9 #[] #[{ accessFlags := 1, nameIndex := 5, descriptorIndex := 6, attributes := #[] }, { accessFlags := 9, nameIndex := 53, descriptorIndex := 54, attributes := #[] }, { accessFlags := 10, nameIndex := 12, descriptorIndex := 13, attributes := #[] }] 49 2 #[] #[])
  fields := #[]
  methods := #[k1m0, k1m1, k1m2]
  instanceTypes := #[]
  staticTypes := #[]
  resolved := Array.replicate 58 none
  statics := none }

def pool2 : Array CpInfo := pool [(1, .class_ 2), (0, u "java/lang/constant/Constable"), (0, .class_ 4), (0, u "java/lang/Object")] 6

/-- java/lang/constant/Constable -/
def k2 : Class := { plain "java/lang/constant/Constable" (some 0) with
  accessFlags := 1537
  interfaces := #[]
  cf := some (fileOf pool2 1 #[] #[] 1537 3 #[] #[])
  fields := #[]
  methods := #[]
  instanceTypes := #[]
  staticTypes := #[]
  resolved := Array.replicate 11 none
  statics := none }

def pool3 : Array CpInfo := pool [(1, .class_ 2), (0, u "java/lang/Comparable"), (0, .class_ 4), (0, u "java/lang/Object")] 7

/-- java/lang/Comparable -/
def k3 : Class := { plain "java/lang/Comparable" (some 0) with
  accessFlags := 1537
  interfaces := #[]
  cf := some (fileOf pool3 1 #[] #[] 1537 3 #[] #[])
  fields := #[]
  methods := #[]
  instanceTypes := #[]
  staticTypes := #[]
  resolved := Array.replicate 12 none
  statics := none }

def pool4 : Array CpInfo := pool [(1, .class_ 2), (0, u "java/io/Serializable"), (0, .class_ 4), (0, u "java/lang/Object")] 2

/-- java/io/Serializable -/
def k4 : Class := { plain "java/io/Serializable" (some 0) with
  accessFlags := 1537
  interfaces := #[]
  cf := some (fileOf pool4 1 #[] #[] 1537 3 #[] #[])
  fields := #[]
  methods := #[]
  instanceTypes := #[]
  staticTypes := #[]
  resolved := Array.replicate 7 none
  statics := none }

def pool5 : Array CpInfo := pool [(2, .class_ 4), (1, u "java/lang/Enum"), (0, u "name"), (0, u "Ljava/lang/String;"), (2, u "ordinal"), (0, u "I"), (1, .class_ 14), (1, u "java/lang/Object"), (4, u "hash"), (86, .class_ 108), (1, u "java/lang/Enum$EnumDesc"), (2, .class_ 112), (0, u "java/lang/constant/Constable"), (0, .class_ 114), (0, u "java/lang/Comparable"), (0, .class_ 116), (0, u "java/io/Serializable")] 87

/-- java/lang/Enum -/
def k5 : Class := { plain "java/lang/Enum" (some 0) with
  accessFlags := 1057
  interfaces := #[2, 3, 4]
  cf := some (fileOf pool5 2 #[.nestMembers #[106]] #[] 1057 12 #[111, 113, 115] #[{ accessFlags := 18, nameIndex := 5, descriptorIndex := 6, attributes := #[] }, { accessFlags := 18, nameIndex := 9, descriptorIndex := 10, attributes := #[] }, { accessFlags := 2, nameIndex := 19, descriptorIndex := 10, attributes := #[] }])
  fields := #[{ name := "name", type := (.object "java/lang/String"), accessFlags := 18, slot := 0, constantValue := 0 }, { name := "ordinal", type := .int, accessFlags := 18, slot := 1, constantValue := 0 }, { name := "hash", type := .int, accessFlags := 2, slot := 2, constantValue := 0 }]
  methods := #[]
  instanceTypes := #[(.object "java/lang/String"), .int, .int]
  staticTypes := #[]
  resolved := Array.replicate 204 none
  statics := none }

def pool6 : Array CpInfo := pool [(1, .class_ 2), (0, u "com/example/portunus/portunus/model/AttributeType"), (0, .fieldref 1 4), (0, .nameAndType 5 6), (0, u "S"), (0, u "Lcom/example/portunus/portunus/model/AttributeType;"), (0, .fieldref 1 8), (0, .nameAndType 9 6), (0, u "N"), (0, .fieldref 1 11), (0, .nameAndType 12 6), (0, u "B"), (2, u "SS"), (2, u "NS"), (2, u "BS"), (2, u "M"), (2, u "L"), (2, u "BOOL"), (2, u "NULL"), (2, u "$VALUES"), (0, u "[Lcom/example/portunus/portunus/model/AttributeType;"), (6, .class_ 46), (1, u "java/lang/Enum"), (28, u "isScalar"), (0, u "()Z")] 5

def k6c0 : Code := { maxStack := 2, maxLocals := 1, code := prog_81_method_4_code, exceptionTable := #[], attributes := #[] }
def k6m0 : Method := { name := "isScalar", desc := "()Z", sig := { parameters := [], returnType := some .boolean }, accessFlags := 1, code := some k6c0 }
/-- com/example/portunus/portunus/model/AttributeType -/
def k6 : Class := { plain "com/example/portunus/portunus/model/AttributeType" (some 5) with
  accessFlags := 16433
  interfaces := #[]
  cf := some (fileOf pool6 1 #[] #[{ accessFlags := 1, nameIndex := 75, descriptorIndex := 76, attributes := #[] }] 16433 44 #[] #[{ accessFlags := 16409, nameIndex := 5, descriptorIndex := 6, attributes := #[] }, { accessFlags := 16409, nameIndex := 9, descriptorIndex := 6, attributes := #[] }, { accessFlags := 16409, nameIndex := 12, descriptorIndex := 6, attributes := #[] }, { accessFlags := 16409, nameIndex := 15, descriptorIndex := 6, attributes := #[] }, { accessFlags := 16409, nameIndex := 18, descriptorIndex := 6, attributes := #[] }, { accessFlags := 16409, nameIndex := 21, descriptorIndex := 6, attributes := #[] }, { accessFlags := 16409, nameIndex := 24, descriptorIndex := 6, attributes := #[] }, { accessFlags := 16409, nameIndex := 27, descriptorIndex := 6, attributes := #[] }, { accessFlags := 16409, nameIndex := 30, descriptorIndex := 6, attributes := #[] }, { accessFlags := 16409, nameIndex := 33, descriptorIndex := 6, attributes := #[] }, { accessFlags := 4122, nameIndex := 36, descriptorIndex := 37, attributes := #[] }])
  fields := #[{ name := "S", type := (.object "com/example/portunus/portunus/model/AttributeType"), accessFlags := 16409, slot := 0, constantValue := 0 }, { name := "N", type := (.object "com/example/portunus/portunus/model/AttributeType"), accessFlags := 16409, slot := 1, constantValue := 0 }, { name := "B", type := (.object "com/example/portunus/portunus/model/AttributeType"), accessFlags := 16409, slot := 2, constantValue := 0 }, { name := "SS", type := (.object "com/example/portunus/portunus/model/AttributeType"), accessFlags := 16409, slot := 3, constantValue := 0 }, { name := "NS", type := (.object "com/example/portunus/portunus/model/AttributeType"), accessFlags := 16409, slot := 4, constantValue := 0 }, { name := "BS", type := (.object "com/example/portunus/portunus/model/AttributeType"), accessFlags := 16409, slot := 5, constantValue := 0 }, { name := "M", type := (.object "com/example/portunus/portunus/model/AttributeType"), accessFlags := 16409, slot := 6, constantValue := 0 }, { name := "L", type := (.object "com/example/portunus/portunus/model/AttributeType"), accessFlags := 16409, slot := 7, constantValue := 0 }, { name := "BOOL", type := (.object "com/example/portunus/portunus/model/AttributeType"), accessFlags := 16409, slot := 8, constantValue := 0 }, { name := "NULL", type := (.object "com/example/portunus/portunus/model/AttributeType"), accessFlags := 16409, slot := 9, constantValue := 0 }, { name := "$VALUES", type := (.array (.object "com/example/portunus/portunus/model/AttributeType")), accessFlags := 4122, slot := 10, constantValue := 0 }]
  methods := #[k6m0]
  instanceTypes := #[(.object "java/lang/String"), .int, .int]
  staticTypes := #[(.object "com/example/portunus/portunus/model/AttributeType"), (.object "com/example/portunus/portunus/model/AttributeType"), (.object "com/example/portunus/portunus/model/AttributeType"), (.object "com/example/portunus/portunus/model/AttributeType"), (.object "com/example/portunus/portunus/model/AttributeType"), (.object "com/example/portunus/portunus/model/AttributeType"), (.object "com/example/portunus/portunus/model/AttributeType"), (.object "com/example/portunus/portunus/model/AttributeType"), (.object "com/example/portunus/portunus/model/AttributeType"), (.object "com/example/portunus/portunus/model/AttributeType"), (.array (.object "com/example/portunus/portunus/model/AttributeType"))]
  resolved := Array.replicate 82 none
  statics := some 0 }

def pool7 : Array CpInfo := pool [(1, u "java/lang/Cloneable"), (0, .class_ 1), (0, u "java/lang/Object"), (0, .class_ 3)] 3

/-- java/lang/Cloneable -/
def k7 : Class := { plain "java/lang/Cloneable" (some 0) with
  accessFlags := 1537
  interfaces := #[]
  cf := some (fileOf pool7 2 #[] #[] 1537 4 #[] #[])
  fields := #[]
  methods := #[]
  instanceTypes := #[]
  staticTypes := #[]
  resolved := Array.replicate 8 none
  statics := none }

/-- the primitive byte -/
def k8 : Class := { plain "byte" none with kind := .primitive 'B', accessFlags := 0x411 }
/-- [B -/
def k9 : Class := { plain "[B" (some 0) with kind := .array 8 .byte, interfaces := #[7, 4], accessFlags := 1041 }

/-- the primitive int -/
def k10 : Class := { plain "int" none with kind := .primitive 'I', accessFlags := 0x411 }
/-- [I -/
def k11 : Class := { plain "[I" (some 0) with kind := .array 10 .int, interfaces := #[7, 4], accessFlags := 1041 }

def heap : Heap := #[{ cls := 6, slots := #[.ref 1, .ref 2, .ref 3, .ref 4, .ref 5, .ref 6, .ref 7, .ref 8, .ref 9, .ref 10, .null], vm := .statics 6 },
  { cls := 6, slots := #[.null, .int 0, .int 0], vm := .none },
  { cls := 6, slots := #[.null, .int 1, .int 0], vm := .none },
  { cls := 6, slots := #[.null, .int 2, .int 0], vm := .none },
  { cls := 6, slots := #[.null, .int 3, .int 0], vm := .none },
  { cls := 6, slots := #[.null, .int 4, .int 0], vm := .none },
  { cls := 6, slots := #[.null, .int 5, .int 0], vm := .none },
  { cls := 6, slots := #[.null, .int 6, .int 0], vm := .none },
  { cls := 6, slots := #[.null, .int 7, .int 0], vm := .none },
  { cls := 6, slots := #[.null, .int 8, .int 0], vm := .none },
  { cls := 6, slots := #[.null, .int 9, .int 0], vm := .none }]
def classes : Array Class := #[k0, k1, k2, k3, k4, k5, k6, k7, k8, k9, k10, k11]
def interned : List (Array UInt16 × Addr) := []
def slotsUsed : Nat := 41
def theMethod : MethodId := ⟨1, 1⟩
def args0 : Array Value := #[.int 5]
def aboutOver (below : List Frame) : State where
  vm := { classes := classes, interned := interned.toArray }
  heap := heap
  slotsUsed := slotsUsed
  threads := #[{ frames := .invoking theMethod args0 :: below }]
def below0 : List Frame := [.native { method := ⟨0, 0⟩, args := #[] }]
def about1 : State := aboutOver below0
def p0 : Program := .bare "" "" ""
def e0 : Env := launch0.env 0 0 0
theorem w_frames : about1.frames = Frame.invoking theMethod args0 :: below0 := rfl
set_option maxRecDepth 65536 in
theorem w_args : argsFit about1.vm theMethod args0 = true := by decide +kernel
set_option maxRecDepth 65536 in
theorem w_heap : heapFits about1 = true := by decide +kernel
set_option maxRecDepth 65536 in
theorem w_runnable : about1.curStatus? = some .runnable := by decide +kernel
set_option maxRecDepth 65536 in
theorem w_alone : about1.alone = true := by decide +kernel
set_option maxRecDepth 65536 in
theorem w_named : about1.methodNamed? x = some theMethod := by decide +kernel
set_option maxRecDepth 65536 in
theorem w_hears : about1.hears theMethod below0 = true := by decide +kernel
set_option maxRecDepth 65536 in
theorem w_ripe : about1.ripe theMethod args0 below0 = true := by decide +kernel
theorem w_running : about1.status = .running := rfl
set_option maxRecDepth 65536 in
theorem w_room : about1.hasRoom e0.platform room_1 = true :=
  launch0.hasRoom_least _ room_1 (by decide +kernel) (by decide +kernel) (by decide +kernel) (by decide +kernel) (by decide +kernel) (by decide +kernel)
theorem allAtoms_all (ts : List Jvm.Cond) (a : Array Jvm.Value) (st : Jvm.State) : (allAtoms ts).before a st = ts.all (fun c => c.before a st) := by
  induction ts with
  | nil => rfl
  | cons c t ih =>
    show (Jvm.Cond.and c (allAtoms t)).before a st = _
    rw [Jvm.Cond.before_and, ih, List.all_cons]
def words1 : List Jvm.Cond := Jvm.Cond.code x code maxLocals ret :: tables_1
/-- a 'code' word, met by the world's own term for the bytes: nothing is compared byte by byte -/
theorem code_word {y : MethodName} {bytes : ByteArray} {mx : Nat} {rt : Option FieldType} {a : Array Value} {s : State} {m : MethodId} {meth : Method} {c : Code} (h1 : s.methodNamed? y = some m) (h2 : s.vm.method? m = some meth) (h3 : meth.code = some c) (h4 : c.code = bytes)
    (h5 : (c.maxLocals == mx && c.exceptionTable.isEmpty && decide (c.maxStack ≤ mostOperands) && decide (meth.sig.returnType = rt) && !meth.locks && decide (parseMethodDescriptor y.desc = some meth.sig)) = true) : (Jvm.Cond.code y bytes mx rt).before a s = true := by
  simp only [Bool.and_eq_true, beq_iff_eq, Bool.not_eq_true', decide_eq_true_eq] at h5
  obtain ⟨⟨⟨⟨⟨g1, g2⟩, g3⟩, g4⟩, g5⟩, g6⟩ := h5
  simp [Cond.before, Cond.holds, Cond.value, h1, h2, h3, h4, g1, g2, g3, g4, g5, g6]
def isCode : Jvm.Cond → Bool
  | .code _ _ _ _ => true
  | _ => false
theorem all_split {L : List Jvm.Cond} {P : Jvm.Cond → Bool} (h1 : L.all (fun c => isCode c || P c) = true) (h2 : ∀ c ∈ L.filter isCode, P c = true) : L.all P = true := by
  refine List.all_eq_true.mpr fun c hc => ?_
  have h := List.all_eq_true.mp h1 c hc
  rcases Bool.eq_false_or_eq_true (isCode c) with hi | hi
  · exact h2 c (List.mem_filter.mpr ⟨hc, hi⟩)
  · simpa [hi] using h
set_option maxRecDepth 65536 in
theorem w_c0 : (Jvm.Cond.code x code maxLocals ret).before args0 about1 = true := code_word (m := ⟨1, 1⟩) (meth := k1m1) (c := k1c1) (by decide +kernel) rfl rfl rfl (by decide +kernel)
set_option maxRecDepth 65536 in
theorem w_c1 : (Jvm.Cond.code ({ cls := "com/example/portunus/portunus/model/AttributeTypeIsScalarPinLaw", name := "pick", desc := "(I)Lcom/example/portunus/portunus/model/AttributeType;" } : Jvm.MethodName) method_3_code (1 : Nat) (Option.some (Jvm.ClassFile.FieldType.object "com/example/portunus/portunus/model/AttributeType"))).before args0 about1 = true := code_word (m := ⟨1, 2⟩) (meth := k1m2) (c := k1c2) (by decide +kernel) rfl rfl rfl (by decide +kernel)
set_option maxRecDepth 65536 in
theorem w_c2 : (Jvm.Cond.code ({ cls := "com/example/portunus/portunus/model/AttributeType", name := "isScalar", desc := "()Z" } : Jvm.MethodName) prog_81_method_4_code (1 : Nat) (Option.some Jvm.ClassFile.FieldType.boolean)).before args0 about1 = true := code_word (m := ⟨6, 0⟩) (meth := k6m0) (c := k6c0) (by decide +kernel) rfl rfl rfl (by decide +kernel)
def codes1 : List Jvm.Cond := [Jvm.Cond.code x code maxLocals ret, Jvm.Cond.code ({ cls := "com/example/portunus/portunus/model/AttributeTypeIsScalarPinLaw", name := "pick", desc := "(I)Lcom/example/portunus/portunus/model/AttributeType;" } : Jvm.MethodName) method_3_code (1 : Nat) (Option.some (Jvm.ClassFile.FieldType.object "com/example/portunus/portunus/model/AttributeType")), Jvm.Cond.code ({ cls := "com/example/portunus/portunus/model/AttributeType", name := "isScalar", desc := "()Z" } : Jvm.MethodName) prog_81_method_4_code (1 : Nat) (Option.some Jvm.ClassFile.FieldType.boolean)]
set_option maxRecDepth 65536 in
theorem codes_eq : words1.filter isCode = codes1 := rfl
theorem w_codes : ∀ c ∈ words1.filter isCode, c.before args0 about1 = true := by
  rw [codes_eq]
  intro c hc
  simp only [codes1, List.mem_cons, List.not_mem_nil, or_false] at hc
  rcases hc with rfl | rfl | rfl
  · exact w_c0
  · exact w_c1
  · exact w_c2
set_option maxRecDepth 65536 in
theorem w_t1 : (words1.take 24).all (fun c => isCode c || c.before args0 about1) = true := by decide +kernel
set_option maxRecDepth 65536 in
theorem w_t2 : (words1.drop 24).all (fun c => isCode c || c.before args0 about1) = true := by decide +kernel
theorem w_tables : (allAtoms (Jvm.Cond.code x code maxLocals ret :: tables_1)).before args0 about1 = true := by
  rw [allAtoms_all]
  show words1.all (fun c => c.before args0 about1) = true
  refine all_split ?_ w_codes
  rw [← List.take_append_drop 24 words1, List.all_append, w_t1, w_t2]
  rfl
set_option maxRecDepth 65536 in
theorem w_case : (Jvm.Cond.and given_1 narrow_1).before args0 about1 = true := by decide +kernel
theorem w_applies : (headSpec (Jvm.Cond.code x code maxLocals ret :: tables_1) room_1).applies x e0.platform about1 = true :=
  (Spec.applies_iff w_frames).mpr ⟨w_running, w_runnable, w_alone, w_named, w_hears, w_ripe, w_room, w_tables⟩
theorem atStart : AtStart classFile x code maxLocals ret World_1 tables_1 room_1 Calls_1 rest_1 Pre_1 launch0 p0 e0 about1 theMethod args0 below0 :=
  ⟨lists_1, trivial, launch0.admits_env _ _ _, launch0.least_env, fairChoices_fair.cas, fairChoices_fair.clock, w_frames, w_args, w_heap, w_applies, trivial, trivial, w_case⟩
end start1
theorem witness_1 : WitnessClaimed_1 := ⟨start1.p0, start1.e0, start1.about1, start1.theMethod, start1.args0, start1.below0, start1.atStart⟩
end Jvm.Pilot.@@N@@
