import JvmDerived
import JvmDerived.Pilot.@@N@@Statement
import JvmDerived.Pilot.@@N@@Code
set_option linter.unusedVariables false
set_option linter.unusedSimpArgs false
namespace Jvm.Pilot.@@N@@
open Jvm Jvm.ClassFile Sem Op Lib Jvm.Free Jvm.Stand Jvm.LawKit Jvm.RoadKit Bundle Jvm.Pilot.@@N@@.Jvm.D
theorem own_go {tb : Tables} {e : Env} {below : List Frame} {A B : State} {P : State → Outcome → Prop} (h : ∀ t, Steps tb e below B t → Steps tb e below A t) (k : ∃ s₂ o, Steps tb e below B s₂ ∧ P s₂ o) : ∃ s₂ o, Steps tb e below A s₂ ∧ P s₂ o := by
  obtain ⟨s₂, o, h1, h2⟩ := k; exact ⟨s₂, o, h _ h1, h2⟩
theorem d1_0 : decode prog_2_method_1_code 0 = .ok (.aload_n 0, 1) := by decide +kernel
theorem d1_1 : decode prog_2_method_1_code 1 = .ok (.invokespecial 1, 3) := by decide +kernel
theorem d1_4 : decode prog_2_method_1_code 4 = .ok (.aload_n 0, 1) := by decide +kernel
theorem d1_5 : decode prog_2_method_1_code 5 = .ok (.bipush 16, 2) := by decide +kernel
theorem d1_7 : decode prog_2_method_1_code 7 = .ok (.newarray .int, 2) := by decide +kernel
theorem d1_9 : decode prog_2_method_1_code 9 = .ok (.putfield 7, 3) := by decide +kernel
theorem d1_12 : decode prog_2_method_1_code 12 = .ok (.aload_n 0, 1) := by decide +kernel
theorem d1_13 : decode prog_2_method_1_code 13 = .ok (.bipush 16, 2) := by decide +kernel
theorem d1_15 : decode prog_2_method_1_code 15 = .ok (.newarray .int, 2) := by decide +kernel
theorem d1_17 : decode prog_2_method_1_code 17 = .ok (.putfield 13, 3) := by decide +kernel
theorem d1_20 : decode prog_2_method_1_code 20 = .ok (.return_, 1) := by decide +kernel
theorem pn_0 : plainName "com/example/axiomwright/axiomwright/Arcs" = true := by first | (simp [plainName, overriddenIn]; done) | decide +kernel
theorem d3_0 : decode prog_2_method_3_code 0 = .ok (.aload_n 0, 1) := by decide +kernel
theorem d3_1 : decode prog_2_method_3_code 1 = .ok (.getfield 16, 3) := by decide +kernel
theorem d3_4 : decode prog_2_method_3_code 4 = .ok (.aload_n 0, 1) := by decide +kernel
theorem d3_5 : decode prog_2_method_3_code 5 = .ok (.getfield 7, 3) := by decide +kernel
theorem d3_8 : decode prog_2_method_3_code 8 = .ok (.arraylength, 1) := by decide +kernel
theorem d3_9 : decode prog_2_method_3_code 9 = .ok (.if_icmp .ne 37, 3) := by decide +kernel
theorem d3_46 : decode prog_2_method_3_code 46 = .ok (.aload_n 0, 1) := by decide +kernel
theorem d3_47 : decode prog_2_method_3_code 47 = .ok (.getfield 7, 3) := by decide +kernel
theorem d3_50 : decode prog_2_method_3_code 50 = .ok (.aload_n 0, 1) := by decide +kernel
theorem d3_51 : decode prog_2_method_3_code 51 = .ok (.getfield 16, 3) := by decide +kernel
theorem d3_54 : decode prog_2_method_3_code 54 = .ok (.iload_n 1, 1) := by decide +kernel
theorem d3_55 : decode prog_2_method_3_code 55 = .ok (.iastore, 1) := by decide +kernel
theorem d3_56 : decode prog_2_method_3_code 56 = .ok (.aload_n 0, 1) := by decide +kernel
theorem d3_57 : decode prog_2_method_3_code 57 = .ok (.getfield 13, 3) := by decide +kernel
theorem d3_60 : decode prog_2_method_3_code 60 = .ok (.aload_n 0, 1) := by decide +kernel
theorem d3_61 : decode prog_2_method_3_code 61 = .ok (.dup, 1) := by decide +kernel
theorem d3_62 : decode prog_2_method_3_code 62 = .ok (.getfield 16, 3) := by decide +kernel
theorem d3_65 : decode prog_2_method_3_code 65 = .ok (.dup_x1, 1) := by decide +kernel
theorem d3_66 : decode prog_2_method_3_code 66 = .ok (.iconst 1, 1) := by decide +kernel
theorem d3_67 : decode prog_2_method_3_code 67 = .ok (.iadd, 1) := by decide +kernel
theorem d3_68 : decode prog_2_method_3_code 68 = .ok (.putfield 16, 3) := by decide +kernel
theorem d3_71 : decode prog_2_method_3_code 71 = .ok (.iload_n 2, 1) := by decide +kernel
theorem d3_72 : decode prog_2_method_3_code 72 = .ok (.iastore, 1) := by decide +kernel
theorem d3_73 : decode prog_2_method_3_code 73 = .ok (.return_, 1) := by decide +kernel
theorem d4_0 : decode prog_2_method_4_code 0 = .ok (.iconst 0, 1) := by decide +kernel
theorem d4_1 : decode prog_2_method_4_code 1 = .ok (.istore_n 2, 1) := by decide +kernel
theorem d4_2 : decode prog_2_method_4_code 2 = .ok (.iload_n 2, 1) := by decide +kernel
theorem d4_3 : decode prog_2_method_4_code 3 = .ok (.aload_n 1, 1) := by decide +kernel
theorem d4_4 : decode prog_2_method_4_code 4 = .ok (.getfield 16, 3) := by decide +kernel
theorem d4_7 : decode prog_2_method_4_code 7 = .ok (.if_icmp .ge 25, 3) := by decide +kernel
theorem d4_10 : decode prog_2_method_4_code 10 = .ok (.aload_n 0, 1) := by decide +kernel
theorem d4_11 : decode prog_2_method_4_code 11 = .ok (.aload_n 1, 1) := by decide +kernel
theorem d4_12 : decode prog_2_method_4_code 12 = .ok (.getfield 7, 3) := by decide +kernel
theorem d4_15 : decode prog_2_method_4_code 15 = .ok (.iload_n 2, 1) := by decide +kernel
theorem d4_16 : decode prog_2_method_4_code 16 = .ok (.iaload, 1) := by decide +kernel
theorem d4_17 : decode prog_2_method_4_code 17 = .ok (.aload_n 1, 1) := by decide +kernel
theorem d4_18 : decode prog_2_method_4_code 18 = .ok (.getfield 13, 3) := by decide +kernel
theorem d4_21 : decode prog_2_method_4_code 21 = .ok (.iload_n 2, 1) := by decide +kernel
theorem d4_22 : decode prog_2_method_4_code 22 = .ok (.iaload, 1) := by decide +kernel
theorem d4_23 : decode prog_2_method_4_code 23 = .ok (.invokevirtual 26, 3) := by decide +kernel
theorem pd_0 : parseMethodDescriptor "(II)V" = some ⟨[.int, .int], none⟩ := by decide +kernel
theorem d4_26 : decode prog_2_method_4_code 26 = .ok (.iinc 2 1, 3) := by decide +kernel
theorem d4_29 : decode prog_2_method_4_code 29 = .ok (.goto (-27), 3) := by decide +kernel
theorem d4_32 : decode prog_2_method_4_code 32 = .ok (.return_, 1) := by decide +kernel
theorem d5_0 : decode prog_2_method_5_code 0 = .ok (.aload_n 0, 1) := by decide +kernel
theorem d5_1 : decode prog_2_method_5_code 1 = .ok (.getfield 16, 3) := by decide +kernel
theorem d5_4 : decode prog_2_method_5_code 4 = .ok (.ireturn, 1) := by decide +kernel
theorem d7_0 : decode jdk_29_method_69_code 0 = .ok (.iload_n 0, 1) := by decide +kernel
theorem d7_1 : decode jdk_29_method_69_code 1 = .ok (.iload_n 1, 1) := by decide +kernel
theorem d7_2 : decode jdk_29_method_69_code 2 = .ok (.if_icmp .gt 7, 3) := by decide +kernel
theorem d7_5 : decode jdk_29_method_69_code 5 = .ok (.iload_n 0, 1) := by decide +kernel
theorem d7_6 : decode jdk_29_method_69_code 6 = .ok (.goto 4, 3) := by decide +kernel
theorem d7_10 : decode jdk_29_method_69_code 10 = .ok (.ireturn, 1) := by decide +kernel
theorem d6_0 : decode jdk_65_method_123_code 0 = .ok (.iload_n 1, 1) := by decide +kernel
theorem d6_1 : decode jdk_65_method_123_code 1 = .ok (.aload_n 0, 1) := by decide +kernel
theorem d6_2 : decode jdk_65_method_123_code 2 = .ok (.arraylength, 1) := by decide +kernel
theorem d6_3 : decode jdk_65_method_123_code 3 = .ok (.if_icmp .ne 11, 3) := by decide +kernel
theorem d6_14 : decode jdk_65_method_123_code 14 = .ok (.iload_n 1, 1) := by decide +kernel
theorem d6_15 : decode jdk_65_method_123_code 15 = .ok (.newarray .int, 2) := by decide +kernel
theorem d6_17 : decode jdk_65_method_123_code 17 = .ok (.astore_n 2, 1) := by decide +kernel
theorem d6_18 : decode jdk_65_method_123_code 18 = .ok (.aload_n 0, 1) := by decide +kernel
theorem d6_19 : decode jdk_65_method_123_code 19 = .ok (.iconst 0, 1) := by decide +kernel
theorem d6_20 : decode jdk_65_method_123_code 20 = .ok (.aload_n 2, 1) := by decide +kernel
theorem d6_21 : decode jdk_65_method_123_code 21 = .ok (.iconst 0, 1) := by decide +kernel
theorem d6_22 : decode jdk_65_method_123_code 22 = .ok (.aload_n 0, 1) := by decide +kernel
theorem d6_23 : decode jdk_65_method_123_code 23 = .ok (.arraylength, 1) := by decide +kernel
theorem d6_24 : decode jdk_65_method_123_code 24 = .ok (.iload_n 1, 1) := by decide +kernel
theorem d6_25 : decode jdk_65_method_123_code 25 = .ok (.invokestatic 304, 3) := by decide +kernel
theorem pd_1 : parseMethodDescriptor "(II)I" = some ⟨[.int, .int], some .int⟩ := by decide +kernel
theorem d6_28 : decode jdk_65_method_123_code 28 = .ok (.invokestatic 150, 3) := by decide +kernel
theorem d6_31 : decode jdk_65_method_123_code 31 = .ok (.aload_n 2, 1) := by decide +kernel
theorem d6_32 : decode jdk_65_method_123_code 32 = .ok (.areturn, 1) := by decide +kernel
theorem pn_1 : plainName "java/util/Arrays" = true := by first | (simp [plainName, overriddenIn]; done) | decide +kernel
theorem d3_12 : decode prog_2_method_3_code 12 = .ok (.aload_n 0, 1) := by decide +kernel
theorem d3_13 : decode prog_2_method_3_code 13 = .ok (.aload_n 0, 1) := by decide +kernel
theorem d3_14 : decode prog_2_method_3_code 14 = .ok (.getfield 7, 3) := by decide +kernel
theorem d3_17 : decode prog_2_method_3_code 17 = .ok (.iconst 2, 1) := by decide +kernel
theorem d3_18 : decode prog_2_method_3_code 18 = .ok (.aload_n 0, 1) := by decide +kernel
theorem d3_19 : decode prog_2_method_3_code 19 = .ok (.getfield 16, 3) := by decide +kernel
theorem d3_22 : decode prog_2_method_3_code 22 = .ok (.imul, 1) := by decide +kernel
theorem d3_23 : decode prog_2_method_3_code 23 = .ok (.invokestatic 20, 3) := by decide +kernel
theorem pd_2 : parseMethodDescriptor "([II)[I" = some ⟨[(.array .int), .int], some (.array .int)⟩ := by decide +kernel
theorem d3_26 : decode prog_2_method_3_code 26 = .ok (.putfield 7, 3) := by decide +kernel
theorem d3_29 : decode prog_2_method_3_code 29 = .ok (.aload_n 0, 1) := by decide +kernel
theorem d3_30 : decode prog_2_method_3_code 30 = .ok (.aload_n 0, 1) := by decide +kernel
theorem d3_31 : decode prog_2_method_3_code 31 = .ok (.getfield 13, 3) := by decide +kernel
theorem d3_34 : decode prog_2_method_3_code 34 = .ok (.iconst 2, 1) := by decide +kernel
theorem d3_35 : decode prog_2_method_3_code 35 = .ok (.aload_n 0, 1) := by decide +kernel
theorem d3_36 : decode prog_2_method_3_code 36 = .ok (.getfield 16, 3) := by decide +kernel
theorem d3_39 : decode prog_2_method_3_code 39 = .ok (.imul, 1) := by decide +kernel
theorem d3_40 : decode prog_2_method_3_code 40 = .ok (.invokestatic 20, 3) := by decide +kernel
theorem d3_43 : decode prog_2_method_3_code 43 = .ok (.putfield 13, 3) := by decide +kernel
theorem d8_0 : decode prog_2_method_6_code 0 = .ok (.aload_n 0, 1) := by decide +kernel
theorem d8_1 : decode prog_2_method_6_code 1 = .ok (.getfield 7, 3) := by decide +kernel
theorem d8_4 : decode prog_2_method_6_code 4 = .ok (.iload_n 1, 1) := by decide +kernel
theorem d8_5 : decode prog_2_method_6_code 5 = .ok (.iaload, 1) := by decide +kernel
theorem d8_6 : decode prog_2_method_6_code 6 = .ok (.ireturn, 1) := by decide +kernel
theorem d9_0 : decode prog_2_method_7_code 0 = .ok (.aload_n 0, 1) := by decide +kernel
theorem d9_1 : decode prog_2_method_7_code 1 = .ok (.getfield 13, 3) := by decide +kernel
theorem d9_4 : decode prog_2_method_7_code 4 = .ok (.iload_n 1, 1) := by decide +kernel
theorem d9_5 : decode prog_2_method_7_code 5 = .ok (.iaload, 1) := by decide +kernel
theorem d9_6 : decode prog_2_method_7_code 6 = .ok (.ireturn, 1) := by decide +kernel
theorem pd_3 : parseMethodDescriptor "()V" = some ⟨[], none⟩ := by decide +kernel
theorem pd_4 : parseMethodDescriptor "(Lcom/example/axiomwright/axiomwright/Arcs;)V" = some ⟨[(.object "com/example/axiomwright/axiomwright/Arcs")], none⟩ := by decide +kernel
theorem pd_5 : parseMethodDescriptor "()I" = some ⟨[], some .int⟩ := by decide +kernel
theorem pd_6 : parseMethodDescriptor "(I)I" = some ⟨[.int], some .int⟩ := by decide +kernel
theorem pn_2 : plainName "com/example/axiomwright/axiomwright/ArcsAddPinLaw" = true := by first | (simp [plainName, overriddenIn]; done) | decide +kernel
def Qrm1 (Z : State) (a1 : Addr) (h0 : Heap) (n0 : Nat) (v : Option Value) (h : Heap) (L : List Loc) : Prop := ∃ b1 : Addr, ∃ b2 : Addr, ∃ k1 : ClassId, ∃ k2 : ClassId, v = none ∧ Fr n0 L ∧ Keep h0 h [a1] ∧ h0.size ≤ b1 ∧ h0.size ≤ b2 ∧ b1 ≠ b2 ∧ Fld Z h a1 "com/example/axiomwright/axiomwright/Arcs" "from" "[I" (.ref b1) ∧ Fld Z h a1 "com/example/axiomwright/axiomwright/Arcs" "to" "[I" (.ref b2) ∧ Fld Z h a1 "com/example/axiomwright/axiomwright/Arcs" "size" "I" (.int (0 : Int32)) ∧ Arv Z h b1 k1 .int (16 : Int32) [(.int (0 : Int32)), (.int (0 : Int32)), (.int (0 : Int32)), (.int (0 : Int32)), (.int (0 : Int32)), (.int (0 : Int32)), (.int (0 : Int32)), (.int (0 : Int32)), (.int (0 : Int32)), (.int (0 : Int32)), (.int (0 : Int32)), (.int (0 : Int32)), (.int (0 : Int32)), (.int (0 : Int32)), (.int (0 : Int32)), (.int (0 : Int32))] (.int (0 : Int32)) ∧ Arv Z h b2 k2 .int (16 : Int32) [(.int (0 : Int32)), (.int (0 : Int32)), (.int (0 : Int32)), (.int (0 : Int32)), (.int (0 : Int32)), (.int (0 : Int32)), (.int (0 : Int32)), (.int (0 : Int32)), (.int (0 : Int32)), (.int (0 : Int32)), (.int (0 : Int32)), (.int (0 : Int32)), (.int (0 : Int32)), (.int (0 : Int32)), (.int (0 : Int32)), (.int (0 : Int32))] (.int (0 : Int32))
theorem efrm1 (m : MethodId) (x0 : Addr) : entryFrame m #[(.ref x0)] 1 = mkF m 0 #[.val (.ref x0)] [] := by first | (simp [entryFrame, mkF, argsToLocals, Value.category]; done) | rfl
set_option maxRecDepth 65536 in
set_option maxHeartbeats 40000000 in
theorem rm1 (l : Launch) (Z : State) (a0 : Array Value) (hw : ∀ d ∈ tables_1, d.before a0 Z = true) (ws : List Jvm.Cond) (a1 : Addr) (h0 : Heap) (n0 : Nat) (Z0 : n0 ≤ h0.size) (P0 : Exa Z h0 a1 "com/example/axiomwright/axiomwright/Arcs") (P1 : Fld Z h0 a1 "com/example/axiomwright/axiomwright/Arcs" "from" "[I" .null) (P2 : Fld Z h0 a1 "com/example/axiomwright/axiomwright/Arcs" "to" "[I" .null) (P3 : Fld Z h0 a1 "com/example/axiomwright/axiomwright/Arcs" "size" "I" (.int (0 : Int32))) (g_a1 : n0 ≤ a1) :
    MetFree l (⟨"com/example/axiomwright/axiomwright/Arcs", "<init>", "()V"⟩ : MethodName) (head1 (Jvm.Cond.code (⟨"com/example/axiomwright/axiomwright/Arcs", "<init>", "()V"⟩ : MethodName) prog_2_method_1_code 1 none :: ws) ({ frames := 1, cells := 2, slots := 32, locals := 12 } : Room)) (fun a U => a = #[(.ref a1)] ∧ Z.Warmed39 U.vm ∧ U.heap = h0) (fun _ _ _ _ _ => True) (fun _ U o U' => ∃ v L, o = .returned v ∧ Qrm1 Z a1 h0 n0 v U'.heap L ∧ FrameEnd U o U' L ({ frames := 1, cells := 2, slots := 32, locals := 12 } : Room).cells ({ frames := 1, cells := 2, slots := 32, locals := 12 } : Room).slots) := by
  refine MetFree.of_bodySF (plainFor_of_name pn_0) hisR ?_
  intro p e s m args below meth c s₁ Bd hml0 hP hK
  obtain ⟨rfl, hZ, hh⟩ := hP
  have hx := Bd.exec
  have hby := Bd.bytes
  have hml : c.maxLocals = 1 := hml0
  have hown : s.vm.findClass "com/example/axiomwright/axiomwright/Arcs" = some m.cls := findClass_of_methodNamed Bd.named
  have hnm := (name_of_methodNamed Bd.named Bd.method).1
  have X0 : Stand p l e ({ frames := 1, cells := 2, slots := 32, locals := 12 } : Room) s m #[(.ref a1)] below meth c s₁ [] 0 0 := Stand.of_body Bd
  have e0 : s₁.heap = h0 := by rw [← hh, Bd.state]; rfl
  have N0 := Fr.nil n0
  have K0 : Keep h0 h0 [a1] := Keep.refl h0 _
  refine own_go (B := s₁.setTop (mkF m 0 #[.val (.ref a1)] [])) (fun t k => castTop (efrm1 m a1) k) ?_
  refine own_go (A := s₁.setTop (mkF m 0 #[.val (.ref a1)] [])) (B := s₁.setTop (mkF m 1 #[.val (.ref a1)] [(.ref a1)])) (fun t k => ?_) ?_
  · show Steps p.tables e below (s₁.setTop (mkF m 0 #[.val (.ref a1)] [])) _
    refine XS.aloadN X0.here hx rfl (hb hby d1_0) rfl rfl ?_
    exact k
  obtain ⟨T1, X1, e1, st1⟩ := initO X0 hx hZ hown (hw _ (List.mem_of_getElem? (i := 6) rfl)) (hw _ (List.mem_of_getElem? (i := 7) rfl)) (hw _ (List.mem_of_getElem? (i := 8) rfl)) e0 (g := (mkF m 1 #[.val (.ref a1)] [(.ref a1)])) rfl (by rw [hml]; rfl) rfl (hb hby d1_1) (by decide) (W := 0) (by show 2 * 0 + _ ≤ _; exact Nat.le_of_eq rfl) (by decide)
  refine own_go st1 ?_
  refine own_go (A := T1.setTop (mkF m 4 #[.val (.ref a1)] [])) (B := T1.setTop (mkF m 7 #[.val (.ref a1)] [(.int (16 : Int32)), (.ref a1)])) (fun t k => ?_) ?_
  · show Steps p.tables e below (T1.setTop (mkF m 4 #[.val (.ref a1)] [])) _
    refine XS.aloadN X1.here hx rfl (hb hby d1_4) rfl rfl ?_
    show Steps p.tables e below (T1.setTop (mkF m 5 #[.val (.ref a1)] [(.ref a1)])) _
    refine XS.bipush X1.here hx rfl (hb hby d1_5) ?_
    exact k
  obtain ⟨T2, h2, k2, X2, e2, E2, A2, st2⟩ := newP X1 hx hZ (hw _ (List.mem_of_getElem? (i := 9) rfl)) e1 (g := (mkF m 7 #[.val (.ref a1)] [(.int (16 : Int32)), (.ref a1)])) rfl (hb hby d1_7) rfl (by decide) (cap := 16) (by decide) (by decide) (by decide) (by decide)
  obtain ⟨b2, g2⟩ : ∃ z, z = h0.size := ⟨_, rfl⟩
  rw [← g2] at A2 st2
  have ne2_a1 : a1 ≠ b2 := Nat.ne_of_lt (Nat.lt_of_lt_of_le P0.lt (Nat.le_of_eq g2.symm))
  have low2 : n0 ≤ b2 := Nat.le_trans Z0 (Nat.le_of_eq g2.symm)
  have sz2 : h0.size ≤ b2 := Nat.le_trans K0.1 (Nat.le_of_eq g2.symm)
  have Q3 : Exa Z h2 a1 "com/example/axiomwright/axiomwright/Arcs" := P0.ext E2
  have Q4 : Fld Z h2 a1 "com/example/axiomwright/axiomwright/Arcs" "from" "[I" .null := P1.ext E2
  have Q5 : Fld Z h2 a1 "com/example/axiomwright/axiomwright/Arcs" "to" "[I" .null := P2.ext E2
  have Q6 : Fld Z h2 a1 "com/example/axiomwright/axiomwright/Arcs" "size" "I" (.int (0 : Int32)) := P3.ext E2
  have Z2 : n0 ≤ h2.size := Nat.le_trans Z0 E2.1
  have K2 := K0.ext E2
  have V2 : Arv Z h2 b2 k2 .int (16 : Int32) [(.int (0 : Int32)), (.int (0 : Int32)), (.int (0 : Int32)), (.int (0 : Int32)), (.int (0 : Int32)), (.int (0 : Int32)), (.int (0 : Int32)), (.int (0 : Int32)), (.int (0 : Int32)), (.int (0 : Int32)), (.int (0 : Int32)), (.int (0 : Int32)), (.int (0 : Int32)), (.int (0 : Int32)), (.int (0 : Int32)), (.int (0 : Int32))] (.int (0 : Int32)) := (Arv.new A2 (by decide)).pad (pad_rep [] (.int (0 : Int32)) 16)
  refine own_go st2 ?_
  obtain ⟨T7, h7, X7, e7, W7, st7⟩ := putF X2 hx hZ hown (host := "") (Or.inl (hw _ (List.mem_of_getElem? (i := 10) rfl))) Via.refl e2 Q4 Q3 (Or.inl (hw _ (List.mem_of_getElem? (i := 11) rfl))) (hw _ (List.mem_of_getElem? (i := 1) rfl)) (ty := (.array .int)) (by decide) rfl rfl (g := (mkF m 9 #[.val (.ref a1)] [(.ref b2), (.ref a1)])) rfl rfl (hb hby d1_9)
  have Q8 : Exa Z h7 a1 "com/example/axiomwright/axiomwright/Arcs" := Q3.wr W7
  have Q9 : Fld Z h7 a1 "com/example/axiomwright/axiomwright/Arcs" "to" "[I" .null := Q5.other W7 (Or.inr (slot_ne (Or.inl (hw _ (List.mem_of_getElem? (i := 13) rfl))) (Or.inl (hw _ (List.mem_of_getElem? (i := 11) rfl))) (by decide) (t := (.array .int)) (t' := (.array .int)) (by decide) (by decide)))
  have Q10 : Fld Z h7 a1 "com/example/axiomwright/axiomwright/Arcs" "size" "I" (.int (0 : Int32)) := Q6.other W7 (Or.inr (slot_ne (Or.inl (hw _ (List.mem_of_getElem? (i := 20) rfl))) (Or.inl (hw _ (List.mem_of_getElem? (i := 11) rfl))) (by decide) (t := .int) (t' := (.array .int)) (by decide) (by decide)))
  have Q11 : Arv Z h7 b2 k2 .int (16 : Int32) [(.int (0 : Int32)), (.int (0 : Int32)), (.int (0 : Int32)), (.int (0 : Int32)), (.int (0 : Int32)), (.int (0 : Int32)), (.int (0 : Int32)), (.int (0 : Int32)), (.int (0 : Int32)), (.int (0 : Int32)), (.int (0 : Int32)), (.int (0 : Int32)), (.int (0 : Int32)), (.int (0 : Int32)), (.int (0 : Int32)), (.int (0 : Int32))] (.int (0 : Int32)) := V2.other W7 (Ne.symm ne2_a1)
  have U7 : Fld Z h7 a1 "com/example/axiomwright/axiomwright/Arcs" "from" "[I" (.ref b2) := Q4.same W7
  have Z7 : n0 ≤ h7.size := Nat.le_trans Z2 (Keep.of_wr W7).1
  have N7 := Fr.snoc X7 N0 g_a1
  have K7 := K2.wr W7 (Or.inl (List.mem_of_getElem? (i := 0) rfl))
  refine own_go st7 ?_
  refine own_go (A := T7.setTop (mkF m 12 #[.val (.ref a1)] [])) (B := T7.setTop (mkF m 15 #[.val (.ref a1)] [(.int (16 : Int32)), (.ref a1)])) (fun t k => ?_) ?_
  · show Steps p.tables e below (T7.setTop (mkF m 12 #[.val (.ref a1)] [])) _
    refine XS.aloadN X7.here hx rfl (hb hby d1_12) rfl rfl ?_
    show Steps p.tables e below (T7.setTop (mkF m 13 #[.val (.ref a1)] [(.ref a1)])) _
    refine XS.bipush X7.here hx rfl (hb hby d1_13) ?_
    exact k
  obtain ⟨T12, h12, k12, X12, e12, E12, A12, st12⟩ := newP X7 hx hZ (hw _ (List.mem_of_getElem? (i := 9) rfl)) e7 (g := (mkF m 15 #[.val (.ref a1)] [(.int (16 : Int32)), (.ref a1)])) rfl (hb hby d1_15) rfl (by decide) (cap := 16) (by decide) (by decide) (by decide) (by decide)
  obtain ⟨b12, g12⟩ : ∃ z, z = h7.size := ⟨_, rfl⟩
  rw [← g12] at A12 st12
  have ne12_a1 : a1 ≠ b12 := Nat.ne_of_lt (Nat.lt_of_lt_of_le Q8.lt (Nat.le_of_eq g12.symm))
  have ne12_b2 : b2 ≠ b12 := Nat.ne_of_lt (Nat.lt_of_lt_of_le Q11.lt (Nat.le_of_eq g12.symm))
  have low12 : n0 ≤ b12 := Nat.le_trans Z7 (Nat.le_of_eq g12.symm)
  have sz12 : h0.size ≤ b12 := Nat.le_trans K7.1 (Nat.le_of_eq g12.symm)
  have Q13 : Exa Z h12 a1 "com/example/axiomwright/axiomwright/Arcs" := Q8.ext E12
  have Q14 : Fld Z h12 a1 "com/example/axiomwright/axiomwright/Arcs" "to" "[I" .null := Q9.ext E12
  have Q15 : Fld Z h12 a1 "com/example/axiomwright/axiomwright/Arcs" "size" "I" (.int (0 : Int32)) := Q10.ext E12
  have Q16 : Arv Z h12 b2 k2 .int (16 : Int32) [(.int (0 : Int32)), (.int (0 : Int32)), (.int (0 : Int32)), (.int (0 : Int32)), (.int (0 : Int32)), (.int (0 : Int32)), (.int (0 : Int32)), (.int (0 : Int32)), (.int (0 : Int32)), (.int (0 : Int32)), (.int (0 : Int32)), (.int (0 : Int32)), (.int (0 : Int32)), (.int (0 : Int32)), (.int (0 : Int32)), (.int (0 : Int32))] (.int (0 : Int32)) := Q11.ext E12
  have Q17 : Fld Z h12 a1 "com/example/axiomwright/axiomwright/Arcs" "from" "[I" (.ref b2) := U7.ext E12
  have Z12 : n0 ≤ h12.size := Nat.le_trans Z7 E12.1
  have K12 := K7.ext E12
  have V12 : Arv Z h12 b12 k12 .int (16 : Int32) [(.int (0 : Int32)), (.int (0 : Int32)), (.int (0 : Int32)), (.int (0 : Int32)), (.int (0 : Int32)), (.int (0 : Int32)), (.int (0 : Int32)), (.int (0 : Int32)), (.int (0 : Int32)), (.int (0 : Int32)), (.int (0 : Int32)), (.int (0 : Int32)), (.int (0 : Int32)), (.int (0 : Int32)), (.int (0 : Int32)), (.int (0 : Int32))] (.int (0 : Int32)) := (Arv.new A12 (by decide)).pad (pad_rep [] (.int (0 : Int32)) 16)
  refine own_go st12 ?_
  obtain ⟨T18, h18, X18, e18, W18, st18⟩ := putF X12 hx hZ hown (host := "") (Or.inl (hw _ (List.mem_of_getElem? (i := 12) rfl))) Via.refl e12 Q14 Q13 (Or.inl (hw _ (List.mem_of_getElem? (i := 13) rfl))) (hw _ (List.mem_of_getElem? (i := 1) rfl)) (ty := (.array .int)) (by decide) rfl rfl (g := (mkF m 17 #[.val (.ref a1)] [(.ref b12), (.ref a1)])) rfl rfl (hb hby d1_17)
  have Q19 : Exa Z h18 a1 "com/example/axiomwright/axiomwright/Arcs" := Q13.wr W18
  have Q20 : Fld Z h18 a1 "com/example/axiomwright/axiomwright/Arcs" "size" "I" (.int (0 : Int32)) := Q15.other W18 (Or.inr (slot_ne (Or.inl (hw _ (List.mem_of_getElem? (i := 20) rfl))) (Or.inl (hw _ (List.mem_of_getElem? (i := 13) rfl))) (by decide) (t := .int) (t' := (.array .int)) (by decide) (by decide)))
  have Q21 : Arv Z h18 b2 k2 .int (16 : Int32) [(.int (0 : Int32)), (.int (0 : Int32)), (.int (0 : Int32)), (.int (0 : Int32)), (.int (0 : Int32)), (.int (0 : Int32)), (.int (0 : Int32)), (.int (0 : Int32)), (.int (0 : Int32)), (.int (0 : Int32)), (.int (0 : Int32)), (.int (0 : Int32)), (.int (0 : Int32)), (.int (0 : Int32)), (.int (0 : Int32)), (.int (0 : Int32))] (.int (0 : Int32)) := Q16.other W18 (Ne.symm ne2_a1)
  have Q22 : Fld Z h18 a1 "com/example/axiomwright/axiomwright/Arcs" "from" "[I" (.ref b2) := Q17.other W18 (Or.inr (slot_ne (Or.inl (hw _ (List.mem_of_getElem? (i := 11) rfl))) (Or.inl (hw _ (List.mem_of_getElem? (i := 13) rfl))) (by decide) (t := (.array .int)) (t' := (.array .int)) (by decide) (by decide)))
  have Q23 : Arv Z h18 b12 k12 .int (16 : Int32) [(.int (0 : Int32)), (.int (0 : Int32)), (.int (0 : Int32)), (.int (0 : Int32)), (.int (0 : Int32)), (.int (0 : Int32)), (.int (0 : Int32)), (.int (0 : Int32)), (.int (0 : Int32)), (.int (0 : Int32)), (.int (0 : Int32)), (.int (0 : Int32)), (.int (0 : Int32)), (.int (0 : Int32)), (.int (0 : Int32)), (.int (0 : Int32))] (.int (0 : Int32)) := V12.other W18 (Ne.symm ne12_a1)
  have U18 : Fld Z h18 a1 "com/example/axiomwright/axiomwright/Arcs" "to" "[I" (.ref b12) := Q14.same W18
  have Z18 : n0 ≤ h18.size := Nat.le_trans Z12 (Keep.of_wr W18).1
  have N18 := Fr.snoc X18 N7 g_a1
  have K18 := K12.wr W18 (Or.inl (List.mem_of_getElem? (i := 0) rfl))
  refine own_go st18 ?_
  obtain ⟨fs, hr, hrun, hended, hW, hsame⟩ := X18.leave (v := none) (fun _ => rfl)
  refine ⟨_, _, ?_, hrun, hended, _, _, rfl, ?_, ⟨_, rfl⟩, hW, hsame.mono (by decide) (by decide)⟩
  · show Steps p.tables e below (T18.setTop (mkF m 20 #[.val (.ref a1)] [])) _
    exact X18.returnOut hx Bd.returns (hb hby d1_20) hr
  · show Qrm1 Z a1 h0 n0 _ T18.heap _
    rw [e18]
    exact ⟨b2, b12, k2, k12, rfl, N18, K18, sz2, sz12, ne12_b2, Q22, U18, Q20, Q21, Q23⟩
def Qrm3 (Z : State) (a1 : Addr) (p2 : Int32) (p3 : Int32) (i0 : Int32) (b1 : Addr) (b2 : Addr) (k1 : ClassId) (k2 : ClassId) (xs : List Value) (ys : List Value) (h0 : Heap) (n0 : Nat) (v : Option Value) (h : Heap) (L : List Loc) : Prop := v = none ∧ Fr n0 L ∧ Keep h0 h [a1, b1, b2] ∧ Fld Z h a1 "com/example/axiomwright/axiomwright/Arcs" "size" "I" (.int (i0 + (1 : Int32))) ∧ Fld Z h a1 "com/example/axiomwright/axiomwright/Arcs" "from" "[I" (.ref b1) ∧ Fld Z h a1 "com/example/axiomwright/axiomwright/Arcs" "to" "[I" (.ref b2) ∧ Arv Z h b1 k1 .int (16 : Int32) (xs.set i0.toNatClampNeg (.int p2)) (.int (0 : Int32)) ∧ Arv Z h b2 k2 .int (16 : Int32) (ys.set i0.toNatClampNeg (.int p3)) (.int (0 : Int32))
theorem efrm3 (m : MethodId) (x0 : Addr) (x1 : Int32) (x2 : Int32) : entryFrame m #[(.ref x0), (.int x1), (.int x2)] 3 = mkF m 0 #[.val (.ref x0), .val (.int x1), .val (.int x2)] [] := by first | (simp [entryFrame, mkF, argsToLocals, Value.category]; done) | rfl
set_option maxRecDepth 65536 in
set_option maxHeartbeats 40000000 in
theorem rm3 (l : Launch) (Z : State) (a0 : Array Value) (hw : ∀ d ∈ tables_1, d.before a0 Z = true) (ws : List Jvm.Cond) (a1 : Addr) (p2 : Int32) (p3 : Int32) (i0 : Int32) (b1 : Addr) (b2 : Addr) (k1 : ClassId) (k2 : ClassId) (xs : List Value) (ys : List Value) (h0 : Heap) (n0 : Nat) (Z0 : n0 ≤ h0.size) (P0 : Exa Z h0 a1 "com/example/axiomwright/axiomwright/Arcs") (P1 : Fld Z h0 a1 "com/example/axiomwright/axiomwright/Arcs" "size" "I" (.int i0)) (P2 : Fld Z h0 a1 "com/example/axiomwright/axiomwright/Arcs" "from" "[I" (.ref b1)) (P3 : Fld Z h0 a1 "com/example/axiomwright/axiomwright/Arcs" "to" "[I" (.ref b2)) (P4 : Arv Z h0 b1 k1 .int (16 : Int32) xs (.int (0 : Int32))) (P5 : Arv Z h0 b2 k2 .int (16 : Int32) ys (.int (0 : Int32))) (g_a1 : n0 ≤ a1) (g_b1 : n0 ≤ b1) (g_b2 : n0 ≤ b2) (ne_a1_b1 : a1 ≠ b1) (ne_a1_b2 : a1 ≠ b2) (ne_b1_b2 : b1 ≠ b2) (h0' : ¬ i0 < (0 : Int32)) (h1' : i0 < (16 : Int32)) (hne' : ¬ (i0 = (16 : Int32))) (hx' : i0.toNatClampNeg < xs.length) (hy' : i0.toNatClampNeg < ys.length) :
    MetFree l (⟨"com/example/axiomwright/axiomwright/Arcs", "add", "(II)V"⟩ : MethodName) (head1 (Jvm.Cond.code (⟨"com/example/axiomwright/axiomwright/Arcs", "add", "(II)V"⟩ : MethodName) prog_2_method_3_code 3 none :: ws) ({ frames := 0, cells := 0, slots := 0, locals := 0 } : Room)) (fun a U => a = #[(.ref a1), (.int p2), (.int p3)] ∧ Z.Warmed39 U.vm ∧ U.heap = h0) (fun _ _ _ _ _ => True) (fun _ U o U' => ∃ v L, o = .returned v ∧ Qrm3 Z a1 p2 p3 i0 b1 b2 k1 k2 xs ys h0 n0 v U'.heap L ∧ FrameEnd U o U' L ({ frames := 0, cells := 0, slots := 0, locals := 0 } : Room).cells ({ frames := 0, cells := 0, slots := 0, locals := 0 } : Room).slots) := by
  refine MetFree.of_bodySF (plainFor_of_name pn_0) hisR ?_
  intro p e s m args below meth c s₁ Bd hml0 hP hK
  obtain ⟨rfl, hZ, hh⟩ := hP
  have hx := Bd.exec
  have hby := Bd.bytes
  have hml : c.maxLocals = 3 := hml0
  have hown : s.vm.findClass "com/example/axiomwright/axiomwright/Arcs" = some m.cls := findClass_of_methodNamed Bd.named
  have hnm := (name_of_methodNamed Bd.named Bd.method).1
  have X0 : Stand p l e ({ frames := 0, cells := 0, slots := 0, locals := 0 } : Room) s m #[(.ref a1), (.int p2), (.int p3)] below meth c s₁ [] 0 0 := Stand.of_body Bd
  have e0 : s₁.heap = h0 := by rw [← hh, Bd.state]; rfl
  have N0 := Fr.nil n0
  have K0 : Keep h0 h0 [a1, b1, b2] := Keep.refl h0 _
  refine own_go (B := s₁.setTop (mkF m 0 #[.val (.ref a1), .val (.int p2), .val (.int p3)] [])) (fun t k => castTop (efrm3 m a1 p2 p3) k) ?_
  refine own_go (A := s₁.setTop (mkF m 0 #[.val (.ref a1), .val (.int p2), .val (.int p3)] [])) (B := s₁.setTop (mkF m 1 #[.val (.ref a1), .val (.int p2), .val (.int p3)] [(.ref a1)])) (fun t k => ?_) ?_
  · show Steps p.tables e below (s₁.setTop (mkF m 0 #[.val (.ref a1), .val (.int p2), .val (.int p3)] [])) _
    refine XS.aloadN X0.here hx rfl (hb hby d3_0) rfl rfl ?_
    exact k
  obtain ⟨T24, X24, e24, st24⟩ := getF X0 hx hZ hown (host := "") (Or.inl (hw _ (List.mem_of_getElem? (i := 19) rfl))) Via.refl e0 P1 (g := (mkF m 1 #[.val (.ref a1), .val (.int p2), .val (.int p3)] [(.ref a1)])) rfl rfl (hb hby d3_1)
  refine own_go st24 ?_
  refine own_go (A := T24.setTop (mkF m 4 #[.val (.ref a1), .val (.int p2), .val (.int p3)] [(.int i0)])) (B := T24.setTop (mkF m 5 #[.val (.ref a1), .val (.int p2), .val (.int p3)] [(.ref a1), (.int i0)])) (fun t k => ?_) ?_
  · show Steps p.tables e below (T24.setTop (mkF m 4 #[.val (.ref a1), .val (.int p2), .val (.int p3)] [(.int i0)])) _
    refine XS.aloadN X24.here hx rfl (hb hby d3_4) rfl rfl ?_
    exact k
  obtain ⟨T25, X25, e25, st25⟩ := getF X24 hx hZ hown (host := "") (Or.inl (hw _ (List.mem_of_getElem? (i := 10) rfl))) Via.refl e24 P2 (g := (mkF m 5 #[.val (.ref a1), .val (.int p2), .val (.int p3)] [(.ref a1), (.int i0)])) rfl rfl (hb hby d3_5)
  refine own_go st25 ?_
  obtain ⟨cl26, Ar26, q26, S26, M26, Ha26, G26⟩ := id P4
  refine own_go (A := T25.setTop (mkF m 8 #[.val (.ref a1), .val (.int p2), .val (.int p3)] [(.ref b1), (.int i0)])) (B := T25.setTop (mkF m 9 #[.val (.ref a1), .val (.int p2), .val (.int p3)] [(.int (16 : Int32)), (.int i0)])) (fun t k => ?_) ?_
  · refine X25.arraylength hx (by rw [e25]; exact Ar26.1) (State.isArrayOf_alike hZ.alike Ar26.2.1) (g := (mkF m 8 #[.val (.ref a1), .val (.int p2), .val (.int p3)] [(.ref b1), (.int i0)])) rfl rfl (hb hby d3_8) _ ?_
    rw [len_of S26 M26]
    exact k
  have hc9_27 : ¬ (i0 = (16 : Int32)) := hne'
  refine own_go (A := T25.setTop (mkF m 9 #[.val (.ref a1), .val (.int p2), .val (.int p3)] [(.int (16 : Int32)), (.int i0)])) (B := T25.setTop (mkF m 47 #[.val (.ref a1), .val (.int p2), .val (.int p3)] [(.ref a1)])) (fun t k => ?_) ?_
  · show Steps p.tables e below (T25.setTop (mkF m 9 #[.val (.ref a1), .val (.int p2), .val (.int p3)] [(.int (16 : Int32)), (.int i0)])) _
    refine XS.icmpYes X25.here hx rfl (pc0 := 9) (pc' := 46) rfl (hb hby d3_9) rfl (feq hc9_27).2 (by decide) (by decide) ?_
    show Steps p.tables e below (T25.setTop (mkF m 46 #[.val (.ref a1), .val (.int p2), .val (.int p3)] [])) _
    refine XS.aloadN X25.here hx rfl (hb hby d3_46) rfl rfl ?_
    exact k
  obtain ⟨T28, X28, e28, st28⟩ := getF X25 hx hZ hown (host := "") (Or.inl (hw _ (List.mem_of_getElem? (i := 10) rfl))) Via.refl e25 P2 (g := (mkF m 47 #[.val (.ref a1), .val (.int p2), .val (.int p3)] [(.ref a1)])) rfl rfl (hb hby d3_47)
  refine own_go st28 ?_
  refine own_go (A := T28.setTop (mkF m 50 #[.val (.ref a1), .val (.int p2), .val (.int p3)] [(.ref b1)])) (B := T28.setTop (mkF m 51 #[.val (.ref a1), .val (.int p2), .val (.int p3)] [(.ref a1), (.ref b1)])) (fun t k => ?_) ?_
  · show Steps p.tables e below (T28.setTop (mkF m 50 #[.val (.ref a1), .val (.int p2), .val (.int p3)] [(.ref b1)])) _
    refine XS.aloadN X28.here hx rfl (hb hby d3_50) rfl rfl ?_
    exact k
  obtain ⟨T29, X29, e29, st29⟩ := getF X28 hx hZ hown (host := "") (Or.inl (hw _ (List.mem_of_getElem? (i := 19) rfl))) Via.refl e28 P1 (g := (mkF m 51 #[.val (.ref a1), .val (.int p2), .val (.int p3)] [(.ref a1), (.ref b1)])) rfl rfl (hb hby d3_51)
  refine own_go st29 ?_
  refine own_go (A := T29.setTop (mkF m 54 #[.val (.ref a1), .val (.int p2), .val (.int p3)] [(.int i0), (.ref b1)])) (B := T29.setTop (mkF m 55 #[.val (.ref a1), .val (.int p2), .val (.int p3)] [(.int p2), (.int i0), (.ref b1)])) (fun t k => ?_) ?_
  · show Steps p.tables e below (T29.setTop (mkF m 54 #[.val (.ref a1), .val (.int p2), .val (.int p3)] [(.int i0), (.ref b1)])) _
    refine XS.iloadN X29.here hx rfl (hb hby d3_54) rfl ?_
    exact k
  obtain ⟨cl30, Ar30, q30, S30, M30, Ha30, G30⟩ := P4
  have hin30 : ¬ (i0 < 0 ∨ cl30.slots.size ≤ (i0).toNatClampNeg) := inb_of S30 ⟨h0', h1'⟩
  obtain ⟨T30, h30, X30, e30, W30, st30⟩ := stI X29 hx hZ e29 Ar30 (j := i0) hin30 (g := (mkF m 55 #[.val (.ref a1), .val (.int p2), .val (.int p3)] [(.int p2), (.int i0), (.ref b1)])) rfl rfl (hb hby d3_55)
  have Q31 : Exa Z h30 a1 "com/example/axiomwright/axiomwright/Arcs" := P0.wr W30
  have Q32 : Fld Z h30 a1 "com/example/axiomwright/axiomwright/Arcs" "size" "I" (.int i0) := P1.other W30 (Or.inl ne_a1_b1)
  have Q33 : Fld Z h30 a1 "com/example/axiomwright/axiomwright/Arcs" "from" "[I" (.ref b1) := P2.other W30 (Or.inl ne_a1_b1)
  have Q34 : Fld Z h30 a1 "com/example/axiomwright/axiomwright/Arcs" "to" "[I" (.ref b2) := P3.other W30 (Or.inl ne_a1_b1)
  have Q35 : Arv Z h30 b2 k2 .int (16 : Int32) ys (.int (0 : Int32)) := P5.other W30 (Ne.symm ne_b1_b2)
  have U30 : Arv Z h30 b1 k1 .int (16 : Int32) (xs.set i0.toNatClampNeg (.int p2)) (.int (0 : Int32)) := Arv.set Ar30 q30 S30 M30 Ha30 G30 rfl W30 i0.toNatClampNeg rfl hx'
  have Z30 : n0 ≤ h30.size := Nat.le_trans Z0 (Keep.of_wr W30).1
  have N30 := Fr.snoc X30 N0 g_b1
  have K30 := K0.wr W30 (Or.inl (List.mem_of_getElem? (i := 1) rfl))
  refine own_go st30 ?_
  refine own_go (A := T30.setTop (mkF m 56 #[.val (.ref a1), .val (.int p2), .val (.int p3)] [])) (B := T30.setTop (mkF m 57 #[.val (.ref a1), .val (.int p2), .val (.int p3)] [(.ref a1)])) (fun t k => ?_) ?_
  · show Steps p.tables e below (T30.setTop (mkF m 56 #[.val (.ref a1), .val (.int p2), .val (.int p3)] [])) _
    refine XS.aloadN X30.here hx rfl (hb hby d3_56) rfl rfl ?_
    exact k
  obtain ⟨T36, X36, e36, st36⟩ := getF X30 hx hZ hown (host := "") (Or.inl (hw _ (List.mem_of_getElem? (i := 12) rfl))) Via.refl e30 Q34 (g := (mkF m 57 #[.val (.ref a1), .val (.int p2), .val (.int p3)] [(.ref a1)])) rfl rfl (hb hby d3_57)
  refine own_go st36 ?_
  refine own_go (A := T36.setTop (mkF m 60 #[.val (.ref a1), .val (.int p2), .val (.int p3)] [(.ref b2)])) (B := T36.setTop (mkF m 62 #[.val (.ref a1), .val (.int p2), .val (.int p3)] [(.ref a1), (.ref a1), (.ref b2)])) (fun t k => ?_) ?_
  · show Steps p.tables e below (T36.setTop (mkF m 60 #[.val (.ref a1), .val (.int p2), .val (.int p3)] [(.ref b2)])) _
    refine XS.aloadN X36.here hx rfl (hb hby d3_60) rfl rfl ?_
    show Steps p.tables e below (T36.setTop (mkF m 61 #[.val (.ref a1), .val (.int p2), .val (.int p3)] [(.ref a1), (.ref b2)])) _
    refine XS.dup X36.here hx rfl (hb hby d3_61) rfl rfl ?_
    exact k
  obtain ⟨T37, X37, e37, st37⟩ := getF X36 hx hZ hown (host := "") (Or.inl (hw _ (List.mem_of_getElem? (i := 19) rfl))) Via.refl e36 Q32 (g := (mkF m 62 #[.val (.ref a1), .val (.int p2), .val (.int p3)] [(.ref a1), (.ref a1), (.ref b2)])) rfl rfl (hb hby d3_62)
  refine own_go st37 ?_
  refine own_go (A := T37.setTop (mkF m 65 #[.val (.ref a1), .val (.int p2), .val (.int p3)] [(.int i0), (.ref a1), (.ref b2)])) (B := T37.setTop (mkF m 68 #[.val (.ref a1), .val (.int p2), .val (.int p3)] [(.int (i0 + (1 : Int32))), (.ref a1), (.int i0), (.ref b2)])) (fun t k => ?_) ?_
  · show Steps p.tables e below (T37.setTop (mkF m 65 #[.val (.ref a1), .val (.int p2), .val (.int p3)] [(.int i0), (.ref a1), (.ref b2)])) _
    refine XS.dupX1 X37.here hx rfl (hb hby d3_65) rfl rfl rfl ?_
    show Steps p.tables e below (T37.setTop (mkF m 66 #[.val (.ref a1), .val (.int p2), .val (.int p3)] [(.int i0), (.ref a1), (.int i0), (.ref b2)])) _
    refine XS.iconst X37.here hx rfl (hb hby d3_66) ?_
    show Steps p.tables e below (T37.setTop (mkF m 67 #[.val (.ref a1), .val (.int p2), .val (.int p3)] [(.int (1 : Int32)), (.int i0), (.ref a1), (.int i0), (.ref b2)])) _
    refine XS.iadd X37.here hx rfl (hb hby d3_67) rfl ?_
    exact k
  obtain ⟨T38, h38, X38, e38, W38, st38⟩ := putF X37 hx hZ hown (host := "") (Or.inl (hw _ (List.mem_of_getElem? (i := 19) rfl))) Via.refl e37 Q32 Q31 (Or.inl (hw _ (List.mem_of_getElem? (i := 20) rfl))) (hw _ (List.mem_of_getElem? (i := 1) rfl)) (ty := .int) (by decide) rfl rfl (g := (mkF m 68 #[.val (.ref a1), .val (.int p2), .val (.int p3)] [(.int (i0 + (1 : Int32))), (.ref a1), (.int i0), (.ref b2)])) rfl rfl (hb hby d3_68)
  have Q39 : Exa Z h38 a1 "com/example/axiomwright/axiomwright/Arcs" := Q31.wr W38
  have Q40 : Fld Z h38 a1 "com/example/axiomwright/axiomwright/Arcs" "from" "[I" (.ref b1) := Q33.other W38 (Or.inr (slot_ne (Or.inl (hw _ (List.mem_of_getElem? (i := 11) rfl))) (Or.inl (hw _ (List.mem_of_getElem? (i := 20) rfl))) (by decide) (t := (.array .int)) (t' := .int) (by decide) (by decide)))
  have Q41 : Fld Z h38 a1 "com/example/axiomwright/axiomwright/Arcs" "to" "[I" (.ref b2) := Q34.other W38 (Or.inr (slot_ne (Or.inl (hw _ (List.mem_of_getElem? (i := 13) rfl))) (Or.inl (hw _ (List.mem_of_getElem? (i := 20) rfl))) (by decide) (t := (.array .int)) (t' := .int) (by decide) (by decide)))
  have Q42 : Arv Z h38 b2 k2 .int (16 : Int32) ys (.int (0 : Int32)) := Q35.other W38 (Ne.symm ne_a1_b2)
  have Q43 : Arv Z h38 b1 k1 .int (16 : Int32) (xs.set i0.toNatClampNeg (.int p2)) (.int (0 : Int32)) := U30.other W38 (Ne.symm ne_a1_b1)
  have U38 : Fld Z h38 a1 "com/example/axiomwright/axiomwright/Arcs" "size" "I" (.int (i0 + (1 : Int32))) := Q32.same W38
  have Z38 : n0 ≤ h38.size := Nat.le_trans Z30 (Keep.of_wr W38).1
  have N38 := Fr.snoc X38 N30 g_a1
  have K38 := K30.wr W38 (Or.inl (List.mem_of_getElem? (i := 0) rfl))
  refine own_go st38 ?_
  refine own_go (A := T38.setTop (mkF m 71 #[.val (.ref a1), .val (.int p2), .val (.int p3)] [(.int i0), (.ref b2)])) (B := T38.setTop (mkF m 72 #[.val (.ref a1), .val (.int p2), .val (.int p3)] [(.int p3), (.int i0), (.ref b2)])) (fun t k => ?_) ?_
  · show Steps p.tables e below (T38.setTop (mkF m 71 #[.val (.ref a1), .val (.int p2), .val (.int p3)] [(.int i0), (.ref b2)])) _
    refine XS.iloadN X38.here hx rfl (hb hby d3_71) rfl ?_
    exact k
  obtain ⟨cl44, Ar44, q44, S44, M44, Ha44, G44⟩ := Q42
  have hin44 : ¬ (i0 < 0 ∨ cl44.slots.size ≤ (i0).toNatClampNeg) := inb_of S44 ⟨h0', h1'⟩
  obtain ⟨T44, h44, X44, e44, W44, st44⟩ := stI X38 hx hZ e38 Ar44 (j := i0) hin44 (g := (mkF m 72 #[.val (.ref a1), .val (.int p2), .val (.int p3)] [(.int p3), (.int i0), (.ref b2)])) rfl rfl (hb hby d3_72)
  have Q45 : Exa Z h44 a1 "com/example/axiomwright/axiomwright/Arcs" := Q39.wr W44
  have Q46 : Fld Z h44 a1 "com/example/axiomwright/axiomwright/Arcs" "from" "[I" (.ref b1) := Q40.other W44 (Or.inl ne_a1_b2)
  have Q47 : Fld Z h44 a1 "com/example/axiomwright/axiomwright/Arcs" "to" "[I" (.ref b2) := Q41.other W44 (Or.inl ne_a1_b2)
  have Q48 : Arv Z h44 b1 k1 .int (16 : Int32) (xs.set i0.toNatClampNeg (.int p2)) (.int (0 : Int32)) := Q43.other W44 ne_b1_b2
  have Q49 : Fld Z h44 a1 "com/example/axiomwright/axiomwright/Arcs" "size" "I" (.int (i0 + (1 : Int32))) := U38.other W44 (Or.inl ne_a1_b2)
  have U44 : Arv Z h44 b2 k2 .int (16 : Int32) (ys.set i0.toNatClampNeg (.int p3)) (.int (0 : Int32)) := Arv.set Ar44 q44 S44 M44 Ha44 G44 rfl W44 i0.toNatClampNeg rfl hy'
  have Z44 : n0 ≤ h44.size := Nat.le_trans Z38 (Keep.of_wr W44).1
  have N44 := Fr.snoc X44 N38 g_b2
  have K44 := K38.wr W44 (Or.inl (List.mem_of_getElem? (i := 2) rfl))
  refine own_go st44 ?_
  obtain ⟨fs, hr, hrun, hended, hW, hsame⟩ := X44.leave (v := none) (fun _ => rfl)
  refine ⟨_, _, ?_, hrun, hended, _, _, rfl, ?_, ⟨_, rfl⟩, hW, hsame.mono (by decide) (by decide)⟩
  · show Steps p.tables e below (T44.setTop (mkF m 73 #[.val (.ref a1), .val (.int p2), .val (.int p3)] [])) _
    exact X44.returnOut hx Bd.returns (hb hby d3_73) hr
  · show Qrm3 Z a1 p2 p3 i0 b1 b2 k1 k2 xs ys h0 n0 _ T44.heap _
    rw [e44]
    exact ⟨rfl, N44, K44, Q49, Q46, Q47, Q48, U44⟩
def Qrm4_0_2 (Z : State) (a1 : Addr) (a2 : Addr) (b1 : Addr) (b2 : Addr) (c1 : Addr) (c2 : Addr) (k1 : ClassId) (k2 : ClassId) (j1 : ClassId) (j2 : ClassId) (x0 : Int32) (x1 : Int32) (x2 : Int32) (x3 : Int32) (x4 : Int32) (x5 : Int32) (x6 : Int32) (x7 : Int32) (x8 : Int32) (x9 : Int32) (x10 : Int32) (x11 : Int32) (x12 : Int32) (x13 : Int32) (x14 : Int32) (x15 : Int32) (y0 : Int32) (y1 : Int32) (y2 : Int32) (y3 : Int32) (y4 : Int32) (y5 : Int32) (y6 : Int32) (y7 : Int32) (y8 : Int32) (y9 : Int32) (y10 : Int32) (y11 : Int32) (y12 : Int32) (y13 : Int32) (y14 : Int32) (y15 : Int32) (u0 : Int32) (u1 : Int32) (u2 : Int32) (u3 : Int32) (u4 : Int32) (u5 : Int32) (u6 : Int32) (u7 : Int32) (u8 : Int32) (u9 : Int32) (u10 : Int32) (u11 : Int32) (u12 : Int32) (u13 : Int32) (u14 : Int32) (u15 : Int32) (v0 : Int32) (v1 : Int32) (v2 : Int32) (v3 : Int32) (v4 : Int32) (v5 : Int32) (v6 : Int32) (v7 : Int32) (v8 : Int32) (v9 : Int32) (v10 : Int32) (v11 : Int32) (v12 : Int32) (v13 : Int32) (v14 : Int32) (v15 : Int32) (h0 : Heap) (n0 : Nat) (v : Option Value) (h : Heap) (L : List Loc) : Prop := v = none ∧ Fr n0 L ∧ Keep h0 h [a1, b1, b2] ∧ Fld Z h a1 "com/example/axiomwright/axiomwright/Arcs" "size" "I" (.int (2 : Int32)) ∧ Fld Z h a1 "com/example/axiomwright/axiomwright/Arcs" "from" "[I" (.ref b1) ∧ Fld Z h a1 "com/example/axiomwright/axiomwright/Arcs" "to" "[I" (.ref b2) ∧ Arv Z h b1 k1 .int (16 : Int32) [(.int u0), (.int u1), (.int x2), (.int x3), (.int x4), (.int x5), (.int x6), (.int x7), (.int x8), (.int x9), (.int x10), (.int x11), (.int x12), (.int x13), (.int x14), (.int x15)] (.int (0 : Int32)) ∧ Arv Z h b2 k2 .int (16 : Int32) [(.int v0), (.int v1), (.int y2), (.int y3), (.int y4), (.int y5), (.int y6), (.int y7), (.int y8), (.int y9), (.int y10), (.int y11), (.int y12), (.int y13), (.int y14), (.int y15)] (.int (0 : Int32))
theorem efrm4_0_2 (m : MethodId) (x0 : Addr) (x1 : Addr) : entryFrame m #[(.ref x0), (.ref x1)] 3 = mkF m 0 #[.val (.ref x0), .val (.ref x1), .unset] [] := by first | (simp [entryFrame, mkF, argsToLocals, Value.category]; done) | rfl
set_option maxRecDepth 65536 in
set_option maxHeartbeats 40000000 in
theorem rm4_0_2 (l : Launch) (Z : State) (a0 : Array Value) (hw : ∀ d ∈ tables_1, d.before a0 Z = true) (ws : List Jvm.Cond) (a1 : Addr) (a2 : Addr) (b1 : Addr) (b2 : Addr) (c1 : Addr) (c2 : Addr) (k1 : ClassId) (k2 : ClassId) (j1 : ClassId) (j2 : ClassId) (x0 : Int32) (x1 : Int32) (x2 : Int32) (x3 : Int32) (x4 : Int32) (x5 : Int32) (x6 : Int32) (x7 : Int32) (x8 : Int32) (x9 : Int32) (x10 : Int32) (x11 : Int32) (x12 : Int32) (x13 : Int32) (x14 : Int32) (x15 : Int32) (y0 : Int32) (y1 : Int32) (y2 : Int32) (y3 : Int32) (y4 : Int32) (y5 : Int32) (y6 : Int32) (y7 : Int32) (y8 : Int32) (y9 : Int32) (y10 : Int32) (y11 : Int32) (y12 : Int32) (y13 : Int32) (y14 : Int32) (y15 : Int32) (u0 : Int32) (u1 : Int32) (u2 : Int32) (u3 : Int32) (u4 : Int32) (u5 : Int32) (u6 : Int32) (u7 : Int32) (u8 : Int32) (u9 : Int32) (u10 : Int32) (u11 : Int32) (u12 : Int32) (u13 : Int32) (u14 : Int32) (u15 : Int32) (v0 : Int32) (v1 : Int32) (v2 : Int32) (v3 : Int32) (v4 : Int32) (v5 : Int32) (v6 : Int32) (v7 : Int32) (v8 : Int32) (v9 : Int32) (v10 : Int32) (v11 : Int32) (v12 : Int32) (v13 : Int32) (v14 : Int32) (v15 : Int32) (h0 : Heap) (n0 : Nat) (Z0 : n0 ≤ h0.size) (P0 : Exa Z h0 a1 "com/example/axiomwright/axiomwright/Arcs") (P1 : Fld Z h0 a1 "com/example/axiomwright/axiomwright/Arcs" "size" "I" (.int (0 : Int32))) (P2 : Fld Z h0 a1 "com/example/axiomwright/axiomwright/Arcs" "from" "[I" (.ref b1)) (P3 : Fld Z h0 a1 "com/example/axiomwright/axiomwright/Arcs" "to" "[I" (.ref b2)) (P4 : Arv Z h0 b1 k1 .int (16 : Int32) [(.int x0), (.int x1), (.int x2), (.int x3), (.int x4), (.int x5), (.int x6), (.int x7), (.int x8), (.int x9), (.int x10), (.int x11), (.int x12), (.int x13), (.int x14), (.int x15)] (.int (0 : Int32))) (P5 : Arv Z h0 b2 k2 .int (16 : Int32) [(.int y0), (.int y1), (.int y2), (.int y3), (.int y4), (.int y5), (.int y6), (.int y7), (.int y8), (.int y9), (.int y10), (.int y11), (.int y12), (.int y13), (.int y14), (.int y15)] (.int (0 : Int32))) (P6 : Fld Z h0 a2 "com/example/axiomwright/axiomwright/Arcs" "size" "I" (.int (2 : Int32))) (P7 : Fld Z h0 a2 "com/example/axiomwright/axiomwright/Arcs" "from" "[I" (.ref c1)) (P8 : Fld Z h0 a2 "com/example/axiomwright/axiomwright/Arcs" "to" "[I" (.ref c2)) (P9 : Arv Z h0 c1 j1 .int (16 : Int32) [(.int u0), (.int u1), (.int u2), (.int u3), (.int u4), (.int u5), (.int u6), (.int u7), (.int u8), (.int u9), (.int u10), (.int u11), (.int u12), (.int u13), (.int u14), (.int u15)] (.int (0 : Int32))) (P10 : Arv Z h0 c2 j2 .int (16 : Int32) [(.int v0), (.int v1), (.int v2), (.int v3), (.int v4), (.int v5), (.int v6), (.int v7), (.int v8), (.int v9), (.int v10), (.int v11), (.int v12), (.int v13), (.int v14), (.int v15)] (.int (0 : Int32))) (g_a1 : n0 ≤ a1) (g_b1 : n0 ≤ b1) (g_b2 : n0 ≤ b2) (ne_a1_b1 : a1 ≠ b1) (ne_a1_b2 : a1 ≠ b2) (ne_b1_b2 : b1 ≠ b2) (ne_a2_a1 : a2 ≠ a1) (ne_a2_b1 : a2 ≠ b1) (ne_a2_b2 : a2 ≠ b2) (ne_c1_a1 : c1 ≠ a1) (ne_c1_b1 : c1 ≠ b1) (ne_c1_b2 : c1 ≠ b2) (ne_c2_a1 : c2 ≠ a1) (ne_c2_b1 : c2 ≠ b1) (ne_c2_b2 : c2 ≠ b2) :
    MetFree l (⟨"com/example/axiomwright/axiomwright/Arcs", "addAll", "(Lcom/example/axiomwright/axiomwright/Arcs;)V"⟩ : MethodName) (head1 (Jvm.Cond.code (⟨"com/example/axiomwright/axiomwright/Arcs", "addAll", "(Lcom/example/axiomwright/axiomwright/Arcs;)V"⟩ : MethodName) prog_2_method_4_code 3 none :: ws) ({ frames := 1, cells := 0, slots := 0, locals := 14 } : Room)) (fun a U => a = #[(.ref a1), (.ref a2)] ∧ Z.Warmed39 U.vm ∧ U.heap = h0) (fun _ _ _ _ _ => True) (fun _ U o U' => ∃ v L, o = .returned v ∧ Qrm4_0_2 Z a1 a2 b1 b2 c1 c2 k1 k2 j1 j2 x0 x1 x2 x3 x4 x5 x6 x7 x8 x9 x10 x11 x12 x13 x14 x15 y0 y1 y2 y3 y4 y5 y6 y7 y8 y9 y10 y11 y12 y13 y14 y15 u0 u1 u2 u3 u4 u5 u6 u7 u8 u9 u10 u11 u12 u13 u14 u15 v0 v1 v2 v3 v4 v5 v6 v7 v8 v9 v10 v11 v12 v13 v14 v15 h0 n0 v U'.heap L ∧ FrameEnd U o U' L ({ frames := 1, cells := 0, slots := 0, locals := 14 } : Room).cells ({ frames := 1, cells := 0, slots := 0, locals := 14 } : Room).slots) := by
  refine MetFree.of_bodySF (plainFor_of_name pn_0) hisR ?_
  intro p e s m args below meth c s₁ Bd hml0 hP hK
  obtain ⟨rfl, hZ, hh⟩ := hP
  have hx := Bd.exec
  have hby := Bd.bytes
  have hml : c.maxLocals = 3 := hml0
  have hown : s.vm.findClass "com/example/axiomwright/axiomwright/Arcs" = some m.cls := findClass_of_methodNamed Bd.named
  have hnm := (name_of_methodNamed Bd.named Bd.method).1
  have X0 : Stand p l e ({ frames := 1, cells := 0, slots := 0, locals := 14 } : Room) s m #[(.ref a1), (.ref a2)] below meth c s₁ [] 0 0 := Stand.of_body Bd
  have e0 : s₁.heap = h0 := by rw [← hh, Bd.state]; rfl
  have N0 := Fr.nil n0
  have K0 : Keep h0 h0 [a1, b1, b2] := Keep.refl h0 _
  refine own_go (B := s₁.setTop (mkF m 0 #[.val (.ref a1), .val (.ref a2), .unset] [])) (fun t k => castTop (efrm4_0_2 m a1 a2) k) ?_
  refine own_go (A := s₁.setTop (mkF m 0 #[.val (.ref a1), .val (.ref a2), .unset] [])) (B := s₁.setTop (mkF m 4 #[.val (.ref a1), .val (.ref a2), .val (.int (0 : Int32))] [(.ref a2), (.int (0 : Int32))])) (fun t k => ?_) ?_
  · show Steps p.tables e below (s₁.setTop (mkF m 0 #[.val (.ref a1), .val (.ref a2), .unset] [])) _
    refine XS.iconst X0.here hx rfl (hb hby d4_0) ?_
    show Steps p.tables e below (s₁.setTop (mkF m 1 #[.val (.ref a1), .val (.ref a2), .unset] [(.int (0 : Int32))])) _
    refine XS.istoreN X0.here hx rfl (hb hby d4_1) rfl (l' := #[.val (.ref a1), .val (.ref a2), .val (.int (0 : Int32))]) rfl ?_
    show Steps p.tables e below (s₁.setTop (mkF m 2 #[.val (.ref a1), .val (.ref a2), .val (.int (0 : Int32))] [])) _
    refine XS.iloadN X0.here hx rfl (hb hby d4_2) rfl ?_
    show Steps p.tables e below (s₁.setTop (mkF m 3 #[.val (.ref a1), .val (.ref a2), .val (.int (0 : Int32))] [(.int (0 : Int32))])) _
    refine XS.aloadN X0.here hx rfl (hb hby d4_3) rfl rfl ?_
    exact k
  obtain ⟨T50, X50, e50, st50⟩ := getF X0 hx hZ hown (host := "") (Or.inl (hw _ (List.mem_of_getElem? (i := 19) rfl))) Via.refl e0 P6 (g := (mkF m 4 #[.val (.ref a1), .val (.ref a2), .val (.int (0 : Int32))] [(.ref a2), (.int (0 : Int32))])) rfl rfl (hb hby d4_4)
  refine own_go st50 ?_
  refine own_go (A := T50.setTop (mkF m 7 #[.val (.ref a1), .val (.ref a2), .val (.int (0 : Int32))] [(.int (2 : Int32)), (.int (0 : Int32))])) (B := T50.setTop (mkF m 12 #[.val (.ref a1), .val (.ref a2), .val (.int (0 : Int32))] [(.ref a2), (.ref a1)])) (fun t k => ?_) ?_
  · show Steps p.tables e below (T50.setTop (mkF m 7 #[.val (.ref a1), .val (.ref a2), .val (.int (0 : Int32))] [(.int (2 : Int32)), (.int (0 : Int32))])) _
    refine XS.icmpNo X50.here hx rfl (hb hby d4_7) rfl (tlt (by decide : ((0 : Int32) < (2 : Int32)))).2.1 ?_
    show Steps p.tables e below (T50.setTop (mkF m 10 #[.val (.ref a1), .val (.ref a2), .val (.int (0 : Int32))] [])) _
    refine XS.aloadN X50.here hx rfl (hb hby d4_10) rfl rfl ?_
    show Steps p.tables e below (T50.setTop (mkF m 11 #[.val (.ref a1), .val (.ref a2), .val (.int (0 : Int32))] [(.ref a1)])) _
    refine XS.aloadN X50.here hx rfl (hb hby d4_11) rfl rfl ?_
    exact k
  obtain ⟨T52, X52, e52, st52⟩ := getF X50 hx hZ hown (host := "") (Or.inl (hw _ (List.mem_of_getElem? (i := 10) rfl))) Via.refl e50 P7 (g := (mkF m 12 #[.val (.ref a1), .val (.ref a2), .val (.int (0 : Int32))] [(.ref a2), (.ref a1)])) rfl rfl (hb hby d4_12)
  refine own_go st52 ?_
  refine own_go (A := T52.setTop (mkF m 15 #[.val (.ref a1), .val (.ref a2), .val (.int (0 : Int32))] [(.ref c1), (.ref a1)])) (B := T52.setTop (mkF m 16 #[.val (.ref a1), .val (.ref a2), .val (.int (0 : Int32))] [(.int (0 : Int32)), (.ref c1), (.ref a1)])) (fun t k => ?_) ?_
  · show Steps p.tables e below (T52.setTop (mkF m 15 #[.val (.ref a1), .val (.ref a2), .val (.int (0 : Int32))] [(.ref c1), (.ref a1)])) _
    refine XS.iloadN X52.here hx rfl (hb hby d4_15) rfl ?_
    exact k
  obtain ⟨cl53, Ar53, q53, S53, M53, Ha53, G53⟩ := id P9
  have hin53 : ¬ ((0 : Int32) < 0 ∨ cl53.slots.size ≤ ((0 : Int32)).toNatClampNeg) := inb_of S53 ⟨by decide, by decide⟩
  refine own_go (A := T52.setTop (mkF m 16 #[.val (.ref a1), .val (.ref a2), .val (.int (0 : Int32))] [(.int (0 : Int32)), (.ref c1), (.ref a1)])) (X52.iaload hx (j := (0 : Int32)) (v := (.int u0)) (by rw [e52]; exact Ar53.1) (State.isArrayOf_alike hZ.alike Ar53.2.1) Ar53.2.2 hin53 (Has.at Ha53 hin53 rfl) (g := (mkF m 16 #[.val (.ref a1), .val (.ref a2), .val (.int (0 : Int32))] [(.int (0 : Int32)), (.ref c1), (.ref a1)])) rfl rfl (hb hby d4_16)) ?_
  refine own_go (A := T52.setTop (mkF m 17 #[.val (.ref a1), .val (.ref a2), .val (.int (0 : Int32))] [(.int u0), (.ref a1)])) (B := T52.setTop (mkF m 18 #[.val (.ref a1), .val (.ref a2), .val (.int (0 : Int32))] [(.ref a2), (.int u0), (.ref a1)])) (fun t k => ?_) ?_
  · show Steps p.tables e below (T52.setTop (mkF m 17 #[.val (.ref a1), .val (.ref a2), .val (.int (0 : Int32))] [(.int u0), (.ref a1)])) _
    refine XS.aloadN X52.here hx rfl (hb hby d4_17) rfl rfl ?_
    exact k
  obtain ⟨T54, X54, e54, st54⟩ := getF X52 hx hZ hown (host := "") (Or.inl (hw _ (List.mem_of_getElem? (i := 12) rfl))) Via.refl e52 P8 (g := (mkF m 18 #[.val (.ref a1), .val (.ref a2), .val (.int (0 : Int32))] [(.ref a2), (.int u0), (.ref a1)])) rfl rfl (hb hby d4_18)
  refine own_go st54 ?_
  refine own_go (A := T54.setTop (mkF m 21 #[.val (.ref a1), .val (.ref a2), .val (.int (0 : Int32))] [(.ref c2), (.int u0), (.ref a1)])) (B := T54.setTop (mkF m 22 #[.val (.ref a1), .val (.ref a2), .val (.int (0 : Int32))] [(.int (0 : Int32)), (.ref c2), (.int u0), (.ref a1)])) (fun t k => ?_) ?_
  · show Steps p.tables e below (T54.setTop (mkF m 21 #[.val (.ref a1), .val (.ref a2), .val (.int (0 : Int32))] [(.ref c2), (.int u0), (.ref a1)])) _
    refine XS.iloadN X54.here hx rfl (hb hby d4_21) rfl ?_
    exact k
  obtain ⟨cl55, Ar55, q55, S55, M55, Ha55, G55⟩ := id P10
  have hin55 : ¬ ((0 : Int32) < 0 ∨ cl55.slots.size ≤ ((0 : Int32)).toNatClampNeg) := inb_of S55 ⟨by decide, by decide⟩
  refine own_go (A := T54.setTop (mkF m 22 #[.val (.ref a1), .val (.ref a2), .val (.int (0 : Int32))] [(.int (0 : Int32)), (.ref c2), (.int u0), (.ref a1)])) (X54.iaload hx (j := (0 : Int32)) (v := (.int v0)) (by rw [e54]; exact Ar55.1) (State.isArrayOf_alike hZ.alike Ar55.2.1) Ar55.2.2 hin55 (Has.at Ha55 hin55 rfl) (g := (mkF m 22 #[.val (.ref a1), .val (.ref a2), .val (.int (0 : Int32))] [(.int (0 : Int32)), (.ref c2), (.int u0), (.ref a1)])) rfl rfl (hb hby d4_22)) ?_
  obtain ⟨cq56, kq56, q56a, q56b, q56c⟩ := isOf hZ e54 P0
  obtain ⟨_, _, ⟨T56, L56, k56, n56⟩, -, X56, ⟨Lc56, hQ56, l56, y56, z56⟩, st56⟩ := X54.virtualBack hx (y := (⟨"com/example/axiomwright/axiomwright/Arcs", "add", "(II)V"⟩ : MethodName)) (z := (⟨"com/example/axiomwright/axiomwright/Arcs", "add", "(II)V"⟩ : MethodName)) hown (mvT hZ (hw _ (List.mem_of_getElem? (i := 26) rfl))) (mvT hZ (hw _ (List.mem_of_getElem? (i := 15) rfl))) (notFace_of_selects (args := #[]) (mvT hZ (hw _ (List.mem_of_getElem? (i := 17) rfl)))) (mvT hZ (hw _ (List.mem_of_getElem? (i := 17) rfl))) (mvT hZ (hw _ (List.mem_of_getElem? (i := 16) rfl))) (by decide) (backOf (W := 0) (rm3 l Z a0 hw [] a1 u0 v0 (0 : Int32) b1 b2 k1 k2 [(.int x0), (.int x1), (.int x2), (.int x3), (.int x4), (.int x5), (.int x6), (.int x7), (.int x8), (.int x9), (.int x10), (.int x11), (.int x12), (.int x13), (.int x14), (.int x15)] [(.int y0), (.int y1), (.int y2), (.int y3), (.int y4), (.int y5), (.int y6), (.int y7), (.int y8), (.int y9), (.int y10), (.int y11), (.int y12), (.int y13), (.int y14), (.int y15)] h0 n0 Z0 P0 P1 P2 P3 P4 P5 g_a1 g_b1 g_b2 ne_a1_b1 ne_a1_b2 ne_b1_b2 (by decide) (by decide) (by decide) (Nat.le_of_ble_eq_true rfl) (Nat.le_of_ble_eq_true rfl)) hZ (hw _ (List.mem_of_getElem? (i := 18) rfl)) (hw _ (List.mem_of_getElem? (i := 2) rfl)) (by decide) (by decide)) q56a q56c (g := (mkF m 23 #[.val (.ref a1), .val (.ref a2), .val (.int (0 : Int32))] [(.int v0), (.int u0), (.ref a1)])) rfl (by rw [hml]; rfl) (Steps.refl _) (argsL := [(.int u0), (.int v0)]) (rest := []) (lenOf pd_0 rfl) rfl (by show 2 * 0 + _ ≤ _; exact Nat.le_of_eq rfl) (hb hby d4_23) (fun _ _ => ⟨rfl, e54, (by decide : 0 + 0 ≤ _), (by decide : 0 + 0 ≤ _)⟩)
  dsimp only [Pt.U, Pt.locs, Pt.cells, Pt.slots] at X56 l56 y56 z56 st56 hQ56
  subst l56 y56 z56
  obtain ⟨rfl, Nq56, Kq56, U56_0, U56_1, U56_2, U56_3, U56_4⟩ := hQ56
  have Q57 : Exa Z T56.heap a1 "com/example/axiomwright/axiomwright/Arcs" := P0.keep Kq56
  have Q58 : Fld Z T56.heap a2 "com/example/axiomwright/axiomwright/Arcs" "size" "I" (.int (2 : Int32)) := P6.keep Kq56 (ninS ne_a2_a1 (ninS ne_a2_b1 (ninS ne_a2_b2 nin0)))
  have Q59 : Fld Z T56.heap a2 "com/example/axiomwright/axiomwright/Arcs" "from" "[I" (.ref c1) := P7.keep Kq56 (ninS ne_a2_a1 (ninS ne_a2_b1 (ninS ne_a2_b2 nin0)))
  have Q60 : Fld Z T56.heap a2 "com/example/axiomwright/axiomwright/Arcs" "to" "[I" (.ref c2) := P8.keep Kq56 (ninS ne_a2_a1 (ninS ne_a2_b1 (ninS ne_a2_b2 nin0)))
  have Q61 : Arv Z T56.heap c1 j1 .int (16 : Int32) [(.int u0), (.int u1), (.int u2), (.int u3), (.int u4), (.int u5), (.int u6), (.int u7), (.int u8), (.int u9), (.int u10), (.int u11), (.int u12), (.int u13), (.int u14), (.int u15)] (.int (0 : Int32)) := P9.keep Kq56 (ninS ne_c1_a1 (ninS ne_c1_b1 (ninS ne_c1_b2 nin0)))
  have Q62 : Arv Z T56.heap c2 j2 .int (16 : Int32) [(.int v0), (.int v1), (.int v2), (.int v3), (.int v4), (.int v5), (.int v6), (.int v7), (.int v8), (.int v9), (.int v10), (.int v11), (.int v12), (.int v13), (.int v14), (.int v15)] (.int (0 : Int32)) := P10.keep Kq56 (ninS ne_c2_a1 (ninS ne_c2_b1 (ninS ne_c2_b2 nin0)))
  have U56_0n : Fld Z T56.heap a1 "com/example/axiomwright/axiomwright/Arcs" "size" "I" (.int (1 : Int32)) := U56_0
  have U56_3n : Arv Z T56.heap b1 k1 .int (16 : Int32) [(.int u0), (.int x1), (.int x2), (.int x3), (.int x4), (.int x5), (.int x6), (.int x7), (.int x8), (.int x9), (.int x10), (.int x11), (.int x12), (.int x13), (.int x14), (.int x15)] (.int (0 : Int32)) := U56_3
  have U56_4n : Arv Z T56.heap b2 k2 .int (16 : Int32) [(.int v0), (.int y1), (.int y2), (.int y3), (.int y4), (.int y5), (.int y6), (.int y7), (.int y8), (.int y9), (.int y10), (.int y11), (.int y12), (.int y13), (.int y14), (.int y15)] (.int (0 : Int32)) := U56_4
  have Z56 : n0 ≤ T56.heap.size := Nat.le_trans Z0 Kq56.1
  have K56 : Keep h0 T56.heap [a1, b1, b2] := K0.trans Kq56 (allS (Or.inl (List.mem_of_getElem? (i := 0) rfl)) (allS (Or.inl (List.mem_of_getElem? (i := 1) rfl)) (allS (Or.inl (List.mem_of_getElem? (i := 2) rfl)) all0)))
  have N56 := Fr.app N0 Nq56
  refine own_go (A := _) (B := T56.setTop (mkF m 26 #[.val (.ref a1), .val (.ref a2), .val (.int (0 : Int32))] [])) (fun t k => st56.trans k) ?_
  refine own_go (A := T56.setTop (mkF m 26 #[.val (.ref a1), .val (.ref a2), .val (.int (0 : Int32))] [])) (B := T56.setTop (mkF m 4 #[.val (.ref a1), .val (.ref a2), .val (.int (1 : Int32))] [(.ref a2), (.int (1 : Int32))])) (fun t k => ?_) ?_
  · show Steps p.tables e below (T56.setTop (mkF m 26 #[.val (.ref a1), .val (.ref a2), .val (.int (0 : Int32))] [])) _
    refine XS.iinc X56.here hx rfl (hb hby d4_26) rfl (l' := #[.val (.ref a1), .val (.ref a2), .val (.int (1 : Int32))]) rfl ?_
    show Steps p.tables e below (T56.setTop (mkF m 29 #[.val (.ref a1), .val (.ref a2), .val (.int (1 : Int32))] [])) _
    refine XS.goto X56.here hx rfl (pc0 := 29) (pc' := 2) rfl (hb hby d4_29) (by decide) (by decide) ?_
    show Steps p.tables e below (T56.setTop (mkF m 2 #[.val (.ref a1), .val (.ref a2), .val (.int (1 : Int32))] [])) _
    refine XS.iloadN X56.here hx rfl (hb hby d4_2) rfl ?_
    show Steps p.tables e below (T56.setTop (mkF m 3 #[.val (.ref a1), .val (.ref a2), .val (.int (1 : Int32))] [(.int (1 : Int32))])) _
    refine XS.aloadN X56.here hx rfl (hb hby d4_3) rfl rfl ?_
    exact k
  obtain ⟨T63, X63, e63, st63⟩ := getF X56 hx hZ hown (host := "") (Or.inl (hw _ (List.mem_of_getElem? (i := 19) rfl))) Via.refl rfl Q58 (g := (mkF m 4 #[.val (.ref a1), .val (.ref a2), .val (.int (1 : Int32))] [(.ref a2), (.int (1 : Int32))])) rfl rfl (hb hby d4_4)
  refine own_go st63 ?_
  refine own_go (A := T63.setTop (mkF m 7 #[.val (.ref a1), .val (.ref a2), .val (.int (1 : Int32))] [(.int (2 : Int32)), (.int (1 : Int32))])) (B := T63.setTop (mkF m 12 #[.val (.ref a1), .val (.ref a2), .val (.int (1 : Int32))] [(.ref a2), (.ref a1)])) (fun t k => ?_) ?_
  · show Steps p.tables e below (T63.setTop (mkF m 7 #[.val (.ref a1), .val (.ref a2), .val (.int (1 : Int32))] [(.int (2 : Int32)), (.int (1 : Int32))])) _
    refine XS.icmpNo X63.here hx rfl (hb hby d4_7) rfl (tlt (by decide : ((1 : Int32) < (2 : Int32)))).2.1 ?_
    show Steps p.tables e below (T63.setTop (mkF m 10 #[.val (.ref a1), .val (.ref a2), .val (.int (1 : Int32))] [])) _
    refine XS.aloadN X63.here hx rfl (hb hby d4_10) rfl rfl ?_
    show Steps p.tables e below (T63.setTop (mkF m 11 #[.val (.ref a1), .val (.ref a2), .val (.int (1 : Int32))] [(.ref a1)])) _
    refine XS.aloadN X63.here hx rfl (hb hby d4_11) rfl rfl ?_
    exact k
  obtain ⟨T65, X65, e65, st65⟩ := getF X63 hx hZ hown (host := "") (Or.inl (hw _ (List.mem_of_getElem? (i := 10) rfl))) Via.refl e63 Q59 (g := (mkF m 12 #[.val (.ref a1), .val (.ref a2), .val (.int (1 : Int32))] [(.ref a2), (.ref a1)])) rfl rfl (hb hby d4_12)
  refine own_go st65 ?_
  refine own_go (A := T65.setTop (mkF m 15 #[.val (.ref a1), .val (.ref a2), .val (.int (1 : Int32))] [(.ref c1), (.ref a1)])) (B := T65.setTop (mkF m 16 #[.val (.ref a1), .val (.ref a2), .val (.int (1 : Int32))] [(.int (1 : Int32)), (.ref c1), (.ref a1)])) (fun t k => ?_) ?_
  · show Steps p.tables e below (T65.setTop (mkF m 15 #[.val (.ref a1), .val (.ref a2), .val (.int (1 : Int32))] [(.ref c1), (.ref a1)])) _
    refine XS.iloadN X65.here hx rfl (hb hby d4_15) rfl ?_
    exact k
  obtain ⟨cl66, Ar66, q66, S66, M66, Ha66, G66⟩ := id Q61
  have hin66 : ¬ ((1 : Int32) < 0 ∨ cl66.slots.size ≤ ((1 : Int32)).toNatClampNeg) := inb_of S66 ⟨by decide, by decide⟩
  refine own_go (A := T65.setTop (mkF m 16 #[.val (.ref a1), .val (.ref a2), .val (.int (1 : Int32))] [(.int (1 : Int32)), (.ref c1), (.ref a1)])) (X65.iaload hx (j := (1 : Int32)) (v := (.int u1)) (by rw [e65]; exact Ar66.1) (State.isArrayOf_alike hZ.alike Ar66.2.1) Ar66.2.2 hin66 (Has.at Ha66 hin66 rfl) (g := (mkF m 16 #[.val (.ref a1), .val (.ref a2), .val (.int (1 : Int32))] [(.int (1 : Int32)), (.ref c1), (.ref a1)])) rfl rfl (hb hby d4_16)) ?_
  refine own_go (A := T65.setTop (mkF m 17 #[.val (.ref a1), .val (.ref a2), .val (.int (1 : Int32))] [(.int u1), (.ref a1)])) (B := T65.setTop (mkF m 18 #[.val (.ref a1), .val (.ref a2), .val (.int (1 : Int32))] [(.ref a2), (.int u1), (.ref a1)])) (fun t k => ?_) ?_
  · show Steps p.tables e below (T65.setTop (mkF m 17 #[.val (.ref a1), .val (.ref a2), .val (.int (1 : Int32))] [(.int u1), (.ref a1)])) _
    refine XS.aloadN X65.here hx rfl (hb hby d4_17) rfl rfl ?_
    exact k
  obtain ⟨T67, X67, e67, st67⟩ := getF X65 hx hZ hown (host := "") (Or.inl (hw _ (List.mem_of_getElem? (i := 12) rfl))) Via.refl e65 Q60 (g := (mkF m 18 #[.val (.ref a1), .val (.ref a2), .val (.int (1 : Int32))] [(.ref a2), (.int u1), (.ref a1)])) rfl rfl (hb hby d4_18)
  refine own_go st67 ?_
  refine own_go (A := T67.setTop (mkF m 21 #[.val (.ref a1), .val (.ref a2), .val (.int (1 : Int32))] [(.ref c2), (.int u1), (.ref a1)])) (B := T67.setTop (mkF m 22 #[.val (.ref a1), .val (.ref a2), .val (.int (1 : Int32))] [(.int (1 : Int32)), (.ref c2), (.int u1), (.ref a1)])) (fun t k => ?_) ?_
  · show Steps p.tables e below (T67.setTop (mkF m 21 #[.val (.ref a1), .val (.ref a2), .val (.int (1 : Int32))] [(.ref c2), (.int u1), (.ref a1)])) _
    refine XS.iloadN X67.here hx rfl (hb hby d4_21) rfl ?_
    exact k
  obtain ⟨cl68, Ar68, q68, S68, M68, Ha68, G68⟩ := id Q62
  have hin68 : ¬ ((1 : Int32) < 0 ∨ cl68.slots.size ≤ ((1 : Int32)).toNatClampNeg) := inb_of S68 ⟨by decide, by decide⟩
  refine own_go (A := T67.setTop (mkF m 22 #[.val (.ref a1), .val (.ref a2), .val (.int (1 : Int32))] [(.int (1 : Int32)), (.ref c2), (.int u1), (.ref a1)])) (X67.iaload hx (j := (1 : Int32)) (v := (.int v1)) (by rw [e67]; exact Ar68.1) (State.isArrayOf_alike hZ.alike Ar68.2.1) Ar68.2.2 hin68 (Has.at Ha68 hin68 rfl) (g := (mkF m 22 #[.val (.ref a1), .val (.ref a2), .val (.int (1 : Int32))] [(.int (1 : Int32)), (.ref c2), (.int u1), (.ref a1)])) rfl rfl (hb hby d4_22)) ?_
  obtain ⟨cq69, kq69, q69a, q69b, q69c⟩ := isOf hZ e67 Q57
  obtain ⟨_, _, ⟨T69, L69, k69, n69⟩, -, X69, ⟨Lc69, hQ69, l69, y69, z69⟩, st69⟩ := X67.virtualBack hx (y := (⟨"com/example/axiomwright/axiomwright/Arcs", "add", "(II)V"⟩ : MethodName)) (z := (⟨"com/example/axiomwright/axiomwright/Arcs", "add", "(II)V"⟩ : MethodName)) hown (mvT hZ (hw _ (List.mem_of_getElem? (i := 26) rfl))) (mvT hZ (hw _ (List.mem_of_getElem? (i := 15) rfl))) (notFace_of_selects (args := #[]) (mvT hZ (hw _ (List.mem_of_getElem? (i := 17) rfl)))) (mvT hZ (hw _ (List.mem_of_getElem? (i := 17) rfl))) (mvT hZ (hw _ (List.mem_of_getElem? (i := 16) rfl))) (by decide) (backOf (W := 0) (rm3 l Z a0 hw [] a1 u1 v1 (1 : Int32) b1 b2 k1 k2 [(.int u0), (.int x1), (.int x2), (.int x3), (.int x4), (.int x5), (.int x6), (.int x7), (.int x8), (.int x9), (.int x10), (.int x11), (.int x12), (.int x13), (.int x14), (.int x15)] [(.int v0), (.int y1), (.int y2), (.int y3), (.int y4), (.int y5), (.int y6), (.int y7), (.int y8), (.int y9), (.int y10), (.int y11), (.int y12), (.int y13), (.int y14), (.int y15)] T56.heap n0 Z56 Q57 U56_0n U56_1 U56_2 U56_3n U56_4n g_a1 g_b1 g_b2 ne_a1_b1 ne_a1_b2 ne_b1_b2 (by decide) (by decide) (by decide) (Nat.le_of_ble_eq_true rfl) (Nat.le_of_ble_eq_true rfl)) hZ (hw _ (List.mem_of_getElem? (i := 18) rfl)) (hw _ (List.mem_of_getElem? (i := 2) rfl)) (by decide) (by decide)) q69a q69c (g := (mkF m 23 #[.val (.ref a1), .val (.ref a2), .val (.int (1 : Int32))] [(.int v1), (.int u1), (.ref a1)])) rfl (by rw [hml]; rfl) (Steps.refl _) (argsL := [(.int u1), (.int v1)]) (rest := []) (lenOf pd_0 rfl) rfl (by show 2 * 0 + _ ≤ _; exact Nat.le_of_eq rfl) (hb hby d4_23) (fun _ _ => ⟨rfl, e67, (by decide : 0 + 0 ≤ _), (by decide : 0 + 0 ≤ _)⟩)
  dsimp only [Pt.U, Pt.locs, Pt.cells, Pt.slots] at X69 l69 y69 z69 st69 hQ69
  subst l69 y69 z69
  obtain ⟨rfl, Nq69, Kq69, U69_0, U69_1, U69_2, U69_3, U69_4⟩ := hQ69
  have Q70 : Exa Z T69.heap a1 "com/example/axiomwright/axiomwright/Arcs" := Q57.keep Kq69
  have Q71 : Fld Z T69.heap a2 "com/example/axiomwright/axiomwright/Arcs" "size" "I" (.int (2 : Int32)) := Q58.keep Kq69 (ninS ne_a2_a1 (ninS ne_a2_b1 (ninS ne_a2_b2 nin0)))
  have Q72 : Fld Z T69.heap a2 "com/example/axiomwright/axiomwright/Arcs" "from" "[I" (.ref c1) := Q59.keep Kq69 (ninS ne_a2_a1 (ninS ne_a2_b1 (ninS ne_a2_b2 nin0)))
  have Q73 : Fld Z T69.heap a2 "com/example/axiomwright/axiomwright/Arcs" "to" "[I" (.ref c2) := Q60.keep Kq69 (ninS ne_a2_a1 (ninS ne_a2_b1 (ninS ne_a2_b2 nin0)))
  have Q74 : Arv Z T69.heap c1 j1 .int (16 : Int32) [(.int u0), (.int u1), (.int u2), (.int u3), (.int u4), (.int u5), (.int u6), (.int u7), (.int u8), (.int u9), (.int u10), (.int u11), (.int u12), (.int u13), (.int u14), (.int u15)] (.int (0 : Int32)) := Q61.keep Kq69 (ninS ne_c1_a1 (ninS ne_c1_b1 (ninS ne_c1_b2 nin0)))
  have Q75 : Arv Z T69.heap c2 j2 .int (16 : Int32) [(.int v0), (.int v1), (.int v2), (.int v3), (.int v4), (.int v5), (.int v6), (.int v7), (.int v8), (.int v9), (.int v10), (.int v11), (.int v12), (.int v13), (.int v14), (.int v15)] (.int (0 : Int32)) := Q62.keep Kq69 (ninS ne_c2_a1 (ninS ne_c2_b1 (ninS ne_c2_b2 nin0)))
  have U69_0n : Fld Z T69.heap a1 "com/example/axiomwright/axiomwright/Arcs" "size" "I" (.int (2 : Int32)) := U69_0
  have U69_3n : Arv Z T69.heap b1 k1 .int (16 : Int32) [(.int u0), (.int u1), (.int x2), (.int x3), (.int x4), (.int x5), (.int x6), (.int x7), (.int x8), (.int x9), (.int x10), (.int x11), (.int x12), (.int x13), (.int x14), (.int x15)] (.int (0 : Int32)) := U69_3
  have U69_4n : Arv Z T69.heap b2 k2 .int (16 : Int32) [(.int v0), (.int v1), (.int y2), (.int y3), (.int y4), (.int y5), (.int y6), (.int y7), (.int y8), (.int y9), (.int y10), (.int y11), (.int y12), (.int y13), (.int y14), (.int y15)] (.int (0 : Int32)) := U69_4
  have Z69 : n0 ≤ T69.heap.size := Nat.le_trans Z56 Kq69.1
  have K69 : Keep h0 T69.heap [a1, b1, b2] := K56.trans Kq69 (allS (Or.inl (List.mem_of_getElem? (i := 0) rfl)) (allS (Or.inl (List.mem_of_getElem? (i := 1) rfl)) (allS (Or.inl (List.mem_of_getElem? (i := 2) rfl)) all0)))
  have N69 := Fr.app N56 Nq69
  refine own_go (A := _) (B := T69.setTop (mkF m 26 #[.val (.ref a1), .val (.ref a2), .val (.int (1 : Int32))] [])) (fun t k => st69.trans k) ?_
  refine own_go (A := T69.setTop (mkF m 26 #[.val (.ref a1), .val (.ref a2), .val (.int (1 : Int32))] [])) (B := T69.setTop (mkF m 4 #[.val (.ref a1), .val (.ref a2), .val (.int (2 : Int32))] [(.ref a2), (.int (2 : Int32))])) (fun t k => ?_) ?_
  · show Steps p.tables e below (T69.setTop (mkF m 26 #[.val (.ref a1), .val (.ref a2), .val (.int (1 : Int32))] [])) _
    refine XS.iinc X69.here hx rfl (hb hby d4_26) rfl (l' := #[.val (.ref a1), .val (.ref a2), .val (.int (2 : Int32))]) rfl ?_
    show Steps p.tables e below (T69.setTop (mkF m 29 #[.val (.ref a1), .val (.ref a2), .val (.int (2 : Int32))] [])) _
    refine XS.goto X69.here hx rfl (pc0 := 29) (pc' := 2) rfl (hb hby d4_29) (by decide) (by decide) ?_
    show Steps p.tables e below (T69.setTop (mkF m 2 #[.val (.ref a1), .val (.ref a2), .val (.int (2 : Int32))] [])) _
    refine XS.iloadN X69.here hx rfl (hb hby d4_2) rfl ?_
    show Steps p.tables e below (T69.setTop (mkF m 3 #[.val (.ref a1), .val (.ref a2), .val (.int (2 : Int32))] [(.int (2 : Int32))])) _
    refine XS.aloadN X69.here hx rfl (hb hby d4_3) rfl rfl ?_
    exact k
  obtain ⟨T76, X76, e76, st76⟩ := getF X69 hx hZ hown (host := "") (Or.inl (hw _ (List.mem_of_getElem? (i := 19) rfl))) Via.refl rfl Q71 (g := (mkF m 4 #[.val (.ref a1), .val (.ref a2), .val (.int (2 : Int32))] [(.ref a2), (.int (2 : Int32))])) rfl rfl (hb hby d4_4)
  refine own_go st76 ?_
  refine own_go (A := T76.setTop (mkF m 7 #[.val (.ref a1), .val (.ref a2), .val (.int (2 : Int32))] [(.int (2 : Int32)), (.int (2 : Int32))])) (B := T76.setTop (mkF m 32 #[.val (.ref a1), .val (.ref a2), .val (.int (2 : Int32))] [])) (fun t k => ?_) ?_
  · show Steps p.tables e below (T76.setTop (mkF m 7 #[.val (.ref a1), .val (.ref a2), .val (.int (2 : Int32))] [(.int (2 : Int32)), (.int (2 : Int32))])) _
    refine XS.icmpYes X76.here hx rfl (pc0 := 7) (pc' := 32) rfl (hb hby d4_7) rfl (flt Int32.lt_irrefl).2.1 (by decide) (by decide) ?_
    exact k
  obtain ⟨fs, hr, hrun, hended, hW, hsame⟩ := X76.leave (v := none) (fun _ => rfl)
  refine ⟨_, _, ?_, hrun, hended, _, _, rfl, ?_, ⟨_, rfl⟩, hW, hsame.mono (by decide) (by decide)⟩
  · show Steps p.tables e below (T76.setTop (mkF m 32 #[.val (.ref a1), .val (.ref a2), .val (.int (2 : Int32))] [])) _
    exact X76.returnOut hx Bd.returns (hb hby d4_32) hr
  · show Qrm4_0_2 Z a1 a2 b1 b2 c1 c2 k1 k2 j1 j2 x0 x1 x2 x3 x4 x5 x6 x7 x8 x9 x10 x11 x12 x13 x14 x15 y0 y1 y2 y3 y4 y5 y6 y7 y8 y9 y10 y11 y12 y13 y14 y15 u0 u1 u2 u3 u4 u5 u6 u7 u8 u9 u10 u11 u12 u13 u14 u15 v0 v1 v2 v3 v4 v5 v6 v7 v8 v9 v10 v11 v12 v13 v14 v15 h0 n0 _ T76.heap _
    rw [e76]
    exact ⟨rfl, N69, K69, U69_0n, U69_1, U69_2, U69_3n, U69_4n⟩
def Qrm4_2_2 (Z : State) (a1 : Addr) (a2 : Addr) (b1 : Addr) (b2 : Addr) (c1 : Addr) (c2 : Addr) (k1 : ClassId) (k2 : ClassId) (j1 : ClassId) (j2 : ClassId) (x0 : Int32) (x1 : Int32) (x2 : Int32) (x3 : Int32) (x4 : Int32) (x5 : Int32) (x6 : Int32) (x7 : Int32) (x8 : Int32) (x9 : Int32) (x10 : Int32) (x11 : Int32) (x12 : Int32) (x13 : Int32) (x14 : Int32) (x15 : Int32) (y0 : Int32) (y1 : Int32) (y2 : Int32) (y3 : Int32) (y4 : Int32) (y5 : Int32) (y6 : Int32) (y7 : Int32) (y8 : Int32) (y9 : Int32) (y10 : Int32) (y11 : Int32) (y12 : Int32) (y13 : Int32) (y14 : Int32) (y15 : Int32) (u0 : Int32) (u1 : Int32) (u2 : Int32) (u3 : Int32) (u4 : Int32) (u5 : Int32) (u6 : Int32) (u7 : Int32) (u8 : Int32) (u9 : Int32) (u10 : Int32) (u11 : Int32) (u12 : Int32) (u13 : Int32) (u14 : Int32) (u15 : Int32) (v0 : Int32) (v1 : Int32) (v2 : Int32) (v3 : Int32) (v4 : Int32) (v5 : Int32) (v6 : Int32) (v7 : Int32) (v8 : Int32) (v9 : Int32) (v10 : Int32) (v11 : Int32) (v12 : Int32) (v13 : Int32) (v14 : Int32) (v15 : Int32) (h0 : Heap) (n0 : Nat) (v : Option Value) (h : Heap) (L : List Loc) : Prop := v = none ∧ Fr n0 L ∧ Keep h0 h [a1, b1, b2] ∧ Fld Z h a1 "com/example/axiomwright/axiomwright/Arcs" "size" "I" (.int (4 : Int32)) ∧ Fld Z h a1 "com/example/axiomwright/axiomwright/Arcs" "from" "[I" (.ref b1) ∧ Fld Z h a1 "com/example/axiomwright/axiomwright/Arcs" "to" "[I" (.ref b2) ∧ Arv Z h b1 k1 .int (16 : Int32) [(.int x0), (.int x1), (.int u0), (.int u1), (.int x4), (.int x5), (.int x6), (.int x7), (.int x8), (.int x9), (.int x10), (.int x11), (.int x12), (.int x13), (.int x14), (.int x15)] (.int (0 : Int32)) ∧ Arv Z h b2 k2 .int (16 : Int32) [(.int y0), (.int y1), (.int v0), (.int v1), (.int y4), (.int y5), (.int y6), (.int y7), (.int y8), (.int y9), (.int y10), (.int y11), (.int y12), (.int y13), (.int y14), (.int y15)] (.int (0 : Int32))
theorem efrm4_2_2 (m : MethodId) (x0 : Addr) (x1 : Addr) : entryFrame m #[(.ref x0), (.ref x1)] 3 = mkF m 0 #[.val (.ref x0), .val (.ref x1), .unset] [] := by first | (simp [entryFrame, mkF, argsToLocals, Value.category]; done) | rfl
set_option maxRecDepth 65536 in
set_option maxHeartbeats 40000000 in
theorem rm4_2_2 (l : Launch) (Z : State) (a0 : Array Value) (hw : ∀ d ∈ tables_1, d.before a0 Z = true) (ws : List Jvm.Cond) (a1 : Addr) (a2 : Addr) (b1 : Addr) (b2 : Addr) (c1 : Addr) (c2 : Addr) (k1 : ClassId) (k2 : ClassId) (j1 : ClassId) (j2 : ClassId) (x0 : Int32) (x1 : Int32) (x2 : Int32) (x3 : Int32) (x4 : Int32) (x5 : Int32) (x6 : Int32) (x7 : Int32) (x8 : Int32) (x9 : Int32) (x10 : Int32) (x11 : Int32) (x12 : Int32) (x13 : Int32) (x14 : Int32) (x15 : Int32) (y0 : Int32) (y1 : Int32) (y2 : Int32) (y3 : Int32) (y4 : Int32) (y5 : Int32) (y6 : Int32) (y7 : Int32) (y8 : Int32) (y9 : Int32) (y10 : Int32) (y11 : Int32) (y12 : Int32) (y13 : Int32) (y14 : Int32) (y15 : Int32) (u0 : Int32) (u1 : Int32) (u2 : Int32) (u3 : Int32) (u4 : Int32) (u5 : Int32) (u6 : Int32) (u7 : Int32) (u8 : Int32) (u9 : Int32) (u10 : Int32) (u11 : Int32) (u12 : Int32) (u13 : Int32) (u14 : Int32) (u15 : Int32) (v0 : Int32) (v1 : Int32) (v2 : Int32) (v3 : Int32) (v4 : Int32) (v5 : Int32) (v6 : Int32) (v7 : Int32) (v8 : Int32) (v9 : Int32) (v10 : Int32) (v11 : Int32) (v12 : Int32) (v13 : Int32) (v14 : Int32) (v15 : Int32) (h0 : Heap) (n0 : Nat) (Z0 : n0 ≤ h0.size) (P0 : Exa Z h0 a1 "com/example/axiomwright/axiomwright/Arcs") (P1 : Fld Z h0 a1 "com/example/axiomwright/axiomwright/Arcs" "size" "I" (.int (2 : Int32))) (P2 : Fld Z h0 a1 "com/example/axiomwright/axiomwright/Arcs" "from" "[I" (.ref b1)) (P3 : Fld Z h0 a1 "com/example/axiomwright/axiomwright/Arcs" "to" "[I" (.ref b2)) (P4 : Arv Z h0 b1 k1 .int (16 : Int32) [(.int x0), (.int x1), (.int x2), (.int x3), (.int x4), (.int x5), (.int x6), (.int x7), (.int x8), (.int x9), (.int x10), (.int x11), (.int x12), (.int x13), (.int x14), (.int x15)] (.int (0 : Int32))) (P5 : Arv Z h0 b2 k2 .int (16 : Int32) [(.int y0), (.int y1), (.int y2), (.int y3), (.int y4), (.int y5), (.int y6), (.int y7), (.int y8), (.int y9), (.int y10), (.int y11), (.int y12), (.int y13), (.int y14), (.int y15)] (.int (0 : Int32))) (P6 : Fld Z h0 a2 "com/example/axiomwright/axiomwright/Arcs" "size" "I" (.int (2 : Int32))) (P7 : Fld Z h0 a2 "com/example/axiomwright/axiomwright/Arcs" "from" "[I" (.ref c1)) (P8 : Fld Z h0 a2 "com/example/axiomwright/axiomwright/Arcs" "to" "[I" (.ref c2)) (P9 : Arv Z h0 c1 j1 .int (16 : Int32) [(.int u0), (.int u1), (.int u2), (.int u3), (.int u4), (.int u5), (.int u6), (.int u7), (.int u8), (.int u9), (.int u10), (.int u11), (.int u12), (.int u13), (.int u14), (.int u15)] (.int (0 : Int32))) (P10 : Arv Z h0 c2 j2 .int (16 : Int32) [(.int v0), (.int v1), (.int v2), (.int v3), (.int v4), (.int v5), (.int v6), (.int v7), (.int v8), (.int v9), (.int v10), (.int v11), (.int v12), (.int v13), (.int v14), (.int v15)] (.int (0 : Int32))) (g_a1 : n0 ≤ a1) (g_b1 : n0 ≤ b1) (g_b2 : n0 ≤ b2) (ne_a1_b1 : a1 ≠ b1) (ne_a1_b2 : a1 ≠ b2) (ne_b1_b2 : b1 ≠ b2) (ne_a2_a1 : a2 ≠ a1) (ne_a2_b1 : a2 ≠ b1) (ne_a2_b2 : a2 ≠ b2) (ne_c1_a1 : c1 ≠ a1) (ne_c1_b1 : c1 ≠ b1) (ne_c1_b2 : c1 ≠ b2) (ne_c2_a1 : c2 ≠ a1) (ne_c2_b1 : c2 ≠ b1) (ne_c2_b2 : c2 ≠ b2) :
    MetFree l (⟨"com/example/axiomwright/axiomwright/Arcs", "addAll", "(Lcom/example/axiomwright/axiomwright/Arcs;)V"⟩ : MethodName) (head1 (Jvm.Cond.code (⟨"com/example/axiomwright/axiomwright/Arcs", "addAll", "(Lcom/example/axiomwright/axiomwright/Arcs;)V"⟩ : MethodName) prog_2_method_4_code 3 none :: ws) ({ frames := 1, cells := 0, slots := 0, locals := 14 } : Room)) (fun a U => a = #[(.ref a1), (.ref a2)] ∧ Z.Warmed39 U.vm ∧ U.heap = h0) (fun _ _ _ _ _ => True) (fun _ U o U' => ∃ v L, o = .returned v ∧ Qrm4_2_2 Z a1 a2 b1 b2 c1 c2 k1 k2 j1 j2 x0 x1 x2 x3 x4 x5 x6 x7 x8 x9 x10 x11 x12 x13 x14 x15 y0 y1 y2 y3 y4 y5 y6 y7 y8 y9 y10 y11 y12 y13 y14 y15 u0 u1 u2 u3 u4 u5 u6 u7 u8 u9 u10 u11 u12 u13 u14 u15 v0 v1 v2 v3 v4 v5 v6 v7 v8 v9 v10 v11 v12 v13 v14 v15 h0 n0 v U'.heap L ∧ FrameEnd U o U' L ({ frames := 1, cells := 0, slots := 0, locals := 14 } : Room).cells ({ frames := 1, cells := 0, slots := 0, locals := 14 } : Room).slots) := by
  refine MetFree.of_bodySF (plainFor_of_name pn_0) hisR ?_
  intro p e s m args below meth c s₁ Bd hml0 hP hK
  obtain ⟨rfl, hZ, hh⟩ := hP
  have hx := Bd.exec
  have hby := Bd.bytes
  have hml : c.maxLocals = 3 := hml0
  have hown : s.vm.findClass "com/example/axiomwright/axiomwright/Arcs" = some m.cls := findClass_of_methodNamed Bd.named
  have hnm := (name_of_methodNamed Bd.named Bd.method).1
  have X0 : Stand p l e ({ frames := 1, cells := 0, slots := 0, locals := 14 } : Room) s m #[(.ref a1), (.ref a2)] below meth c s₁ [] 0 0 := Stand.of_body Bd
  have e0 : s₁.heap = h0 := by rw [← hh, Bd.state]; rfl
  have N0 := Fr.nil n0
  have K0 : Keep h0 h0 [a1, b1, b2] := Keep.refl h0 _
  refine own_go (B := s₁.setTop (mkF m 0 #[.val (.ref a1), .val (.ref a2), .unset] [])) (fun t k => castTop (efrm4_2_2 m a1 a2) k) ?_
  refine own_go (A := s₁.setTop (mkF m 0 #[.val (.ref a1), .val (.ref a2), .unset] [])) (B := s₁.setTop (mkF m 4 #[.val (.ref a1), .val (.ref a2), .val (.int (0 : Int32))] [(.ref a2), (.int (0 : Int32))])) (fun t k => ?_) ?_
  · show Steps p.tables e below (s₁.setTop (mkF m 0 #[.val (.ref a1), .val (.ref a2), .unset] [])) _
    refine XS.iconst X0.here hx rfl (hb hby d4_0) ?_
    show Steps p.tables e below (s₁.setTop (mkF m 1 #[.val (.ref a1), .val (.ref a2), .unset] [(.int (0 : Int32))])) _
    refine XS.istoreN X0.here hx rfl (hb hby d4_1) rfl (l' := #[.val (.ref a1), .val (.ref a2), .val (.int (0 : Int32))]) rfl ?_
    show Steps p.tables e below (s₁.setTop (mkF m 2 #[.val (.ref a1), .val (.ref a2), .val (.int (0 : Int32))] [])) _
    refine XS.iloadN X0.here hx rfl (hb hby d4_2) rfl ?_
    show Steps p.tables e below (s₁.setTop (mkF m 3 #[.val (.ref a1), .val (.ref a2), .val (.int (0 : Int32))] [(.int (0 : Int32))])) _
    refine XS.aloadN X0.here hx rfl (hb hby d4_3) rfl rfl ?_
    exact k
  obtain ⟨T78, X78, e78, st78⟩ := getF X0 hx hZ hown (host := "") (Or.inl (hw _ (List.mem_of_getElem? (i := 19) rfl))) Via.refl e0 P6 (g := (mkF m 4 #[.val (.ref a1), .val (.ref a2), .val (.int (0 : Int32))] [(.ref a2), (.int (0 : Int32))])) rfl rfl (hb hby d4_4)
  refine own_go st78 ?_
  refine own_go (A := T78.setTop (mkF m 7 #[.val (.ref a1), .val (.ref a2), .val (.int (0 : Int32))] [(.int (2 : Int32)), (.int (0 : Int32))])) (B := T78.setTop (mkF m 12 #[.val (.ref a1), .val (.ref a2), .val (.int (0 : Int32))] [(.ref a2), (.ref a1)])) (fun t k => ?_) ?_
  · show Steps p.tables e below (T78.setTop (mkF m 7 #[.val (.ref a1), .val (.ref a2), .val (.int (0 : Int32))] [(.int (2 : Int32)), (.int (0 : Int32))])) _
    refine XS.icmpNo X78.here hx rfl (hb hby d4_7) rfl (tlt (by decide : ((0 : Int32) < (2 : Int32)))).2.1 ?_
    show Steps p.tables e below (T78.setTop (mkF m 10 #[.val (.ref a1), .val (.ref a2), .val (.int (0 : Int32))] [])) _
    refine XS.aloadN X78.here hx rfl (hb hby d4_10) rfl rfl ?_
    show Steps p.tables e below (T78.setTop (mkF m 11 #[.val (.ref a1), .val (.ref a2), .val (.int (0 : Int32))] [(.ref a1)])) _
    refine XS.aloadN X78.here hx rfl (hb hby d4_11) rfl rfl ?_
    exact k
  obtain ⟨T80, X80, e80, st80⟩ := getF X78 hx hZ hown (host := "") (Or.inl (hw _ (List.mem_of_getElem? (i := 10) rfl))) Via.refl e78 P7 (g := (mkF m 12 #[.val (.ref a1), .val (.ref a2), .val (.int (0 : Int32))] [(.ref a2), (.ref a1)])) rfl rfl (hb hby d4_12)
  refine own_go st80 ?_
  refine own_go (A := T80.setTop (mkF m 15 #[.val (.ref a1), .val (.ref a2), .val (.int (0 : Int32))] [(.ref c1), (.ref a1)])) (B := T80.setTop (mkF m 16 #[.val (.ref a1), .val (.ref a2), .val (.int (0 : Int32))] [(.int (0 : Int32)), (.ref c1), (.ref a1)])) (fun t k => ?_) ?_
  · show Steps p.tables e below (T80.setTop (mkF m 15 #[.val (.ref a1), .val (.ref a2), .val (.int (0 : Int32))] [(.ref c1), (.ref a1)])) _
    refine XS.iloadN X80.here hx rfl (hb hby d4_15) rfl ?_
    exact k
  obtain ⟨cl81, Ar81, q81, S81, M81, Ha81, G81⟩ := id P9
  have hin81 : ¬ ((0 : Int32) < 0 ∨ cl81.slots.size ≤ ((0 : Int32)).toNatClampNeg) := inb_of S81 ⟨by decide, by decide⟩
  refine own_go (A := T80.setTop (mkF m 16 #[.val (.ref a1), .val (.ref a2), .val (.int (0 : Int32))] [(.int (0 : Int32)), (.ref c1), (.ref a1)])) (X80.iaload hx (j := (0 : Int32)) (v := (.int u0)) (by rw [e80]; exact Ar81.1) (State.isArrayOf_alike hZ.alike Ar81.2.1) Ar81.2.2 hin81 (Has.at Ha81 hin81 rfl) (g := (mkF m 16 #[.val (.ref a1), .val (.ref a2), .val (.int (0 : Int32))] [(.int (0 : Int32)), (.ref c1), (.ref a1)])) rfl rfl (hb hby d4_16)) ?_
  refine own_go (A := T80.setTop (mkF m 17 #[.val (.ref a1), .val (.ref a2), .val (.int (0 : Int32))] [(.int u0), (.ref a1)])) (B := T80.setTop (mkF m 18 #[.val (.ref a1), .val (.ref a2), .val (.int (0 : Int32))] [(.ref a2), (.int u0), (.ref a1)])) (fun t k => ?_) ?_
  · show Steps p.tables e below (T80.setTop (mkF m 17 #[.val (.ref a1), .val (.ref a2), .val (.int (0 : Int32))] [(.int u0), (.ref a1)])) _
    refine XS.aloadN X80.here hx rfl (hb hby d4_17) rfl rfl ?_
    exact k
  obtain ⟨T82, X82, e82, st82⟩ := getF X80 hx hZ hown (host := "") (Or.inl (hw _ (List.mem_of_getElem? (i := 12) rfl))) Via.refl e80 P8 (g := (mkF m 18 #[.val (.ref a1), .val (.ref a2), .val (.int (0 : Int32))] [(.ref a2), (.int u0), (.ref a1)])) rfl rfl (hb hby d4_18)
  refine own_go st82 ?_
  refine own_go (A := T82.setTop (mkF m 21 #[.val (.ref a1), .val (.ref a2), .val (.int (0 : Int32))] [(.ref c2), (.int u0), (.ref a1)])) (B := T82.setTop (mkF m 22 #[.val (.ref a1), .val (.ref a2), .val (.int (0 : Int32))] [(.int (0 : Int32)), (.ref c2), (.int u0), (.ref a1)])) (fun t k => ?_) ?_
  · show Steps p.tables e below (T82.setTop (mkF m 21 #[.val (.ref a1), .val (.ref a2), .val (.int (0 : Int32))] [(.ref c2), (.int u0), (.ref a1)])) _
    refine XS.iloadN X82.here hx rfl (hb hby d4_21) rfl ?_
    exact k
  obtain ⟨cl83, Ar83, q83, S83, M83, Ha83, G83⟩ := id P10
  have hin83 : ¬ ((0 : Int32) < 0 ∨ cl83.slots.size ≤ ((0 : Int32)).toNatClampNeg) := inb_of S83 ⟨by decide, by decide⟩
  refine own_go (A := T82.setTop (mkF m 22 #[.val (.ref a1), .val (.ref a2), .val (.int (0 : Int32))] [(.int (0 : Int32)), (.ref c2), (.int u0), (.ref a1)])) (X82.iaload hx (j := (0 : Int32)) (v := (.int v0)) (by rw [e82]; exact Ar83.1) (State.isArrayOf_alike hZ.alike Ar83.2.1) Ar83.2.2 hin83 (Has.at Ha83 hin83 rfl) (g := (mkF m 22 #[.val (.ref a1), .val (.ref a2), .val (.int (0 : Int32))] [(.int (0 : Int32)), (.ref c2), (.int u0), (.ref a1)])) rfl rfl (hb hby d4_22)) ?_
  obtain ⟨cq84, kq84, q84a, q84b, q84c⟩ := isOf hZ e82 P0
  obtain ⟨_, _, ⟨T84, L84, k84, n84⟩, -, X84, ⟨Lc84, hQ84, l84, y84, z84⟩, st84⟩ := X82.virtualBack hx (y := (⟨"com/example/axiomwright/axiomwright/Arcs", "add", "(II)V"⟩ : MethodName)) (z := (⟨"com/example/axiomwright/axiomwright/Arcs", "add", "(II)V"⟩ : MethodName)) hown (mvT hZ (hw _ (List.mem_of_getElem? (i := 26) rfl))) (mvT hZ (hw _ (List.mem_of_getElem? (i := 15) rfl))) (notFace_of_selects (args := #[]) (mvT hZ (hw _ (List.mem_of_getElem? (i := 17) rfl)))) (mvT hZ (hw _ (List.mem_of_getElem? (i := 17) rfl))) (mvT hZ (hw _ (List.mem_of_getElem? (i := 16) rfl))) (by decide) (backOf (W := 0) (rm3 l Z a0 hw [] a1 u0 v0 (2 : Int32) b1 b2 k1 k2 [(.int x0), (.int x1), (.int x2), (.int x3), (.int x4), (.int x5), (.int x6), (.int x7), (.int x8), (.int x9), (.int x10), (.int x11), (.int x12), (.int x13), (.int x14), (.int x15)] [(.int y0), (.int y1), (.int y2), (.int y3), (.int y4), (.int y5), (.int y6), (.int y7), (.int y8), (.int y9), (.int y10), (.int y11), (.int y12), (.int y13), (.int y14), (.int y15)] h0 n0 Z0 P0 P1 P2 P3 P4 P5 g_a1 g_b1 g_b2 ne_a1_b1 ne_a1_b2 ne_b1_b2 (by decide) (by decide) (by decide) (Nat.le_of_ble_eq_true rfl) (Nat.le_of_ble_eq_true rfl)) hZ (hw _ (List.mem_of_getElem? (i := 18) rfl)) (hw _ (List.mem_of_getElem? (i := 2) rfl)) (by decide) (by decide)) q84a q84c (g := (mkF m 23 #[.val (.ref a1), .val (.ref a2), .val (.int (0 : Int32))] [(.int v0), (.int u0), (.ref a1)])) rfl (by rw [hml]; rfl) (Steps.refl _) (argsL := [(.int u0), (.int v0)]) (rest := []) (lenOf pd_0 rfl) rfl (by show 2 * 0 + _ ≤ _; exact Nat.le_of_eq rfl) (hb hby d4_23) (fun _ _ => ⟨rfl, e82, (by decide : 0 + 0 ≤ _), (by decide : 0 + 0 ≤ _)⟩)
  dsimp only [Pt.U, Pt.locs, Pt.cells, Pt.slots] at X84 l84 y84 z84 st84 hQ84
  subst l84 y84 z84
  obtain ⟨rfl, Nq84, Kq84, U84_0, U84_1, U84_2, U84_3, U84_4⟩ := hQ84
  have Q85 : Exa Z T84.heap a1 "com/example/axiomwright/axiomwright/Arcs" := P0.keep Kq84
  have Q86 : Fld Z T84.heap a2 "com/example/axiomwright/axiomwright/Arcs" "size" "I" (.int (2 : Int32)) := P6.keep Kq84 (ninS ne_a2_a1 (ninS ne_a2_b1 (ninS ne_a2_b2 nin0)))
  have Q87 : Fld Z T84.heap a2 "com/example/axiomwright/axiomwright/Arcs" "from" "[I" (.ref c1) := P7.keep Kq84 (ninS ne_a2_a1 (ninS ne_a2_b1 (ninS ne_a2_b2 nin0)))
  have Q88 : Fld Z T84.heap a2 "com/example/axiomwright/axiomwright/Arcs" "to" "[I" (.ref c2) := P8.keep Kq84 (ninS ne_a2_a1 (ninS ne_a2_b1 (ninS ne_a2_b2 nin0)))
  have Q89 : Arv Z T84.heap c1 j1 .int (16 : Int32) [(.int u0), (.int u1), (.int u2), (.int u3), (.int u4), (.int u5), (.int u6), (.int u7), (.int u8), (.int u9), (.int u10), (.int u11), (.int u12), (.int u13), (.int u14), (.int u15)] (.int (0 : Int32)) := P9.keep Kq84 (ninS ne_c1_a1 (ninS ne_c1_b1 (ninS ne_c1_b2 nin0)))
  have Q90 : Arv Z T84.heap c2 j2 .int (16 : Int32) [(.int v0), (.int v1), (.int v2), (.int v3), (.int v4), (.int v5), (.int v6), (.int v7), (.int v8), (.int v9), (.int v10), (.int v11), (.int v12), (.int v13), (.int v14), (.int v15)] (.int (0 : Int32)) := P10.keep Kq84 (ninS ne_c2_a1 (ninS ne_c2_b1 (ninS ne_c2_b2 nin0)))
  have U84_0n : Fld Z T84.heap a1 "com/example/axiomwright/axiomwright/Arcs" "size" "I" (.int (3 : Int32)) := U84_0
  have U84_3n : Arv Z T84.heap b1 k1 .int (16 : Int32) [(.int x0), (.int x1), (.int u0), (.int x3), (.int x4), (.int x5), (.int x6), (.int x7), (.int x8), (.int x9), (.int x10), (.int x11), (.int x12), (.int x13), (.int x14), (.int x15)] (.int (0 : Int32)) := U84_3
  have U84_4n : Arv Z T84.heap b2 k2 .int (16 : Int32) [(.int y0), (.int y1), (.int v0), (.int y3), (.int y4), (.int y5), (.int y6), (.int y7), (.int y8), (.int y9), (.int y10), (.int y11), (.int y12), (.int y13), (.int y14), (.int y15)] (.int (0 : Int32)) := U84_4
  have Z84 : n0 ≤ T84.heap.size := Nat.le_trans Z0 Kq84.1
  have K84 : Keep h0 T84.heap [a1, b1, b2] := K0.trans Kq84 (allS (Or.inl (List.mem_of_getElem? (i := 0) rfl)) (allS (Or.inl (List.mem_of_getElem? (i := 1) rfl)) (allS (Or.inl (List.mem_of_getElem? (i := 2) rfl)) all0)))
  have N84 := Fr.app N0 Nq84
  refine own_go (A := _) (B := T84.setTop (mkF m 26 #[.val (.ref a1), .val (.ref a2), .val (.int (0 : Int32))] [])) (fun t k => st84.trans k) ?_
  refine own_go (A := T84.setTop (mkF m 26 #[.val (.ref a1), .val (.ref a2), .val (.int (0 : Int32))] [])) (B := T84.setTop (mkF m 4 #[.val (.ref a1), .val (.ref a2), .val (.int (1 : Int32))] [(.ref a2), (.int (1 : Int32))])) (fun t k => ?_) ?_
  · show Steps p.tables e below (T84.setTop (mkF m 26 #[.val (.ref a1), .val (.ref a2), .val (.int (0 : Int32))] [])) _
    refine XS.iinc X84.here hx rfl (hb hby d4_26) rfl (l' := #[.val (.ref a1), .val (.ref a2), .val (.int (1 : Int32))]) rfl ?_
    show Steps p.tables e below (T84.setTop (mkF m 29 #[.val (.ref a1), .val (.ref a2), .val (.int (1 : Int32))] [])) _
    refine XS.goto X84.here hx rfl (pc0 := 29) (pc' := 2) rfl (hb hby d4_29) (by decide) (by decide) ?_
    show Steps p.tables e below (T84.setTop (mkF m 2 #[.val (.ref a1), .val (.ref a2), .val (.int (1 : Int32))] [])) _
    refine XS.iloadN X84.here hx rfl (hb hby d4_2) rfl ?_
    show Steps p.tables e below (T84.setTop (mkF m 3 #[.val (.ref a1), .val (.ref a2), .val (.int (1 : Int32))] [(.int (1 : Int32))])) _
    refine XS.aloadN X84.here hx rfl (hb hby d4_3) rfl rfl ?_
    exact k
  obtain ⟨T91, X91, e91, st91⟩ := getF X84 hx hZ hown (host := "") (Or.inl (hw _ (List.mem_of_getElem? (i := 19) rfl))) Via.refl rfl Q86 (g := (mkF m 4 #[.val (.ref a1), .val (.ref a2), .val (.int (1 : Int32))] [(.ref a2), (.int (1 : Int32))])) rfl rfl (hb hby d4_4)
  refine own_go st91 ?_
  refine own_go (A := T91.setTop (mkF m 7 #[.val (.ref a1), .val (.ref a2), .val (.int (1 : Int32))] [(.int (2 : Int32)), (.int (1 : Int32))])) (B := T91.setTop (mkF m 12 #[.val (.ref a1), .val (.ref a2), .val (.int (1 : Int32))] [(.ref a2), (.ref a1)])) (fun t k => ?_) ?_
  · show Steps p.tables e below (T91.setTop (mkF m 7 #[.val (.ref a1), .val (.ref a2), .val (.int (1 : Int32))] [(.int (2 : Int32)), (.int (1 : Int32))])) _
    refine XS.icmpNo X91.here hx rfl (hb hby d4_7) rfl (tlt (by decide : ((1 : Int32) < (2 : Int32)))).2.1 ?_
    show Steps p.tables e below (T91.setTop (mkF m 10 #[.val (.ref a1), .val (.ref a2), .val (.int (1 : Int32))] [])) _
    refine XS.aloadN X91.here hx rfl (hb hby d4_10) rfl rfl ?_
    show Steps p.tables e below (T91.setTop (mkF m 11 #[.val (.ref a1), .val (.ref a2), .val (.int (1 : Int32))] [(.ref a1)])) _
    refine XS.aloadN X91.here hx rfl (hb hby d4_11) rfl rfl ?_
    exact k
  obtain ⟨T93, X93, e93, st93⟩ := getF X91 hx hZ hown (host := "") (Or.inl (hw _ (List.mem_of_getElem? (i := 10) rfl))) Via.refl e91 Q87 (g := (mkF m 12 #[.val (.ref a1), .val (.ref a2), .val (.int (1 : Int32))] [(.ref a2), (.ref a1)])) rfl rfl (hb hby d4_12)
  refine own_go st93 ?_
  refine own_go (A := T93.setTop (mkF m 15 #[.val (.ref a1), .val (.ref a2), .val (.int (1 : Int32))] [(.ref c1), (.ref a1)])) (B := T93.setTop (mkF m 16 #[.val (.ref a1), .val (.ref a2), .val (.int (1 : Int32))] [(.int (1 : Int32)), (.ref c1), (.ref a1)])) (fun t k => ?_) ?_
  · show Steps p.tables e below (T93.setTop (mkF m 15 #[.val (.ref a1), .val (.ref a2), .val (.int (1 : Int32))] [(.ref c1), (.ref a1)])) _
    refine XS.iloadN X93.here hx rfl (hb hby d4_15) rfl ?_
    exact k
  obtain ⟨cl94, Ar94, q94, S94, M94, Ha94, G94⟩ := id Q89
  have hin94 : ¬ ((1 : Int32) < 0 ∨ cl94.slots.size ≤ ((1 : Int32)).toNatClampNeg) := inb_of S94 ⟨by decide, by decide⟩
  refine own_go (A := T93.setTop (mkF m 16 #[.val (.ref a1), .val (.ref a2), .val (.int (1 : Int32))] [(.int (1 : Int32)), (.ref c1), (.ref a1)])) (X93.iaload hx (j := (1 : Int32)) (v := (.int u1)) (by rw [e93]; exact Ar94.1) (State.isArrayOf_alike hZ.alike Ar94.2.1) Ar94.2.2 hin94 (Has.at Ha94 hin94 rfl) (g := (mkF m 16 #[.val (.ref a1), .val (.ref a2), .val (.int (1 : Int32))] [(.int (1 : Int32)), (.ref c1), (.ref a1)])) rfl rfl (hb hby d4_16)) ?_
  refine own_go (A := T93.setTop (mkF m 17 #[.val (.ref a1), .val (.ref a2), .val (.int (1 : Int32))] [(.int u1), (.ref a1)])) (B := T93.setTop (mkF m 18 #[.val (.ref a1), .val (.ref a2), .val (.int (1 : Int32))] [(.ref a2), (.int u1), (.ref a1)])) (fun t k => ?_) ?_
  · show Steps p.tables e below (T93.setTop (mkF m 17 #[.val (.ref a1), .val (.ref a2), .val (.int (1 : Int32))] [(.int u1), (.ref a1)])) _
    refine XS.aloadN X93.here hx rfl (hb hby d4_17) rfl rfl ?_
    exact k
  obtain ⟨T95, X95, e95, st95⟩ := getF X93 hx hZ hown (host := "") (Or.inl (hw _ (List.mem_of_getElem? (i := 12) rfl))) Via.refl e93 Q88 (g := (mkF m 18 #[.val (.ref a1), .val (.ref a2), .val (.int (1 : Int32))] [(.ref a2), (.int u1), (.ref a1)])) rfl rfl (hb hby d4_18)
  refine own_go st95 ?_
  refine own_go (A := T95.setTop (mkF m 21 #[.val (.ref a1), .val (.ref a2), .val (.int (1 : Int32))] [(.ref c2), (.int u1), (.ref a1)])) (B := T95.setTop (mkF m 22 #[.val (.ref a1), .val (.ref a2), .val (.int (1 : Int32))] [(.int (1 : Int32)), (.ref c2), (.int u1), (.ref a1)])) (fun t k => ?_) ?_
  · show Steps p.tables e below (T95.setTop (mkF m 21 #[.val (.ref a1), .val (.ref a2), .val (.int (1 : Int32))] [(.ref c2), (.int u1), (.ref a1)])) _
    refine XS.iloadN X95.here hx rfl (hb hby d4_21) rfl ?_
    exact k
  obtain ⟨cl96, Ar96, q96, S96, M96, Ha96, G96⟩ := id Q90
  have hin96 : ¬ ((1 : Int32) < 0 ∨ cl96.slots.size ≤ ((1 : Int32)).toNatClampNeg) := inb_of S96 ⟨by decide, by decide⟩
  refine own_go (A := T95.setTop (mkF m 22 #[.val (.ref a1), .val (.ref a2), .val (.int (1 : Int32))] [(.int (1 : Int32)), (.ref c2), (.int u1), (.ref a1)])) (X95.iaload hx (j := (1 : Int32)) (v := (.int v1)) (by rw [e95]; exact Ar96.1) (State.isArrayOf_alike hZ.alike Ar96.2.1) Ar96.2.2 hin96 (Has.at Ha96 hin96 rfl) (g := (mkF m 22 #[.val (.ref a1), .val (.ref a2), .val (.int (1 : Int32))] [(.int (1 : Int32)), (.ref c2), (.int u1), (.ref a1)])) rfl rfl (hb hby d4_22)) ?_
  obtain ⟨cq97, kq97, q97a, q97b, q97c⟩ := isOf hZ e95 Q85
  obtain ⟨_, _, ⟨T97, L97, k97, n97⟩, -, X97, ⟨Lc97, hQ97, l97, y97, z97⟩, st97⟩ := X95.virtualBack hx (y := (⟨"com/example/axiomwright/axiomwright/Arcs", "add", "(II)V"⟩ : MethodName)) (z := (⟨"com/example/axiomwright/axiomwright/Arcs", "add", "(II)V"⟩ : MethodName)) hown (mvT hZ (hw _ (List.mem_of_getElem? (i := 26) rfl))) (mvT hZ (hw _ (List.mem_of_getElem? (i := 15) rfl))) (notFace_of_selects (args := #[]) (mvT hZ (hw _ (List.mem_of_getElem? (i := 17) rfl)))) (mvT hZ (hw _ (List.mem_of_getElem? (i := 17) rfl))) (mvT hZ (hw _ (List.mem_of_getElem? (i := 16) rfl))) (by decide) (backOf (W := 0) (rm3 l Z a0 hw [] a1 u1 v1 (3 : Int32) b1 b2 k1 k2 [(.int x0), (.int x1), (.int u0), (.int x3), (.int x4), (.int x5), (.int x6), (.int x7), (.int x8), (.int x9), (.int x10), (.int x11), (.int x12), (.int x13), (.int x14), (.int x15)] [(.int y0), (.int y1), (.int v0), (.int y3), (.int y4), (.int y5), (.int y6), (.int y7), (.int y8), (.int y9), (.int y10), (.int y11), (.int y12), (.int y13), (.int y14), (.int y15)] T84.heap n0 Z84 Q85 U84_0n U84_1 U84_2 U84_3n U84_4n g_a1 g_b1 g_b2 ne_a1_b1 ne_a1_b2 ne_b1_b2 (by decide) (by decide) (by decide) (Nat.le_of_ble_eq_true rfl) (Nat.le_of_ble_eq_true rfl)) hZ (hw _ (List.mem_of_getElem? (i := 18) rfl)) (hw _ (List.mem_of_getElem? (i := 2) rfl)) (by decide) (by decide)) q97a q97c (g := (mkF m 23 #[.val (.ref a1), .val (.ref a2), .val (.int (1 : Int32))] [(.int v1), (.int u1), (.ref a1)])) rfl (by rw [hml]; rfl) (Steps.refl _) (argsL := [(.int u1), (.int v1)]) (rest := []) (lenOf pd_0 rfl) rfl (by show 2 * 0 + _ ≤ _; exact Nat.le_of_eq rfl) (hb hby d4_23) (fun _ _ => ⟨rfl, e95, (by decide : 0 + 0 ≤ _), (by decide : 0 + 0 ≤ _)⟩)
  dsimp only [Pt.U, Pt.locs, Pt.cells, Pt.slots] at X97 l97 y97 z97 st97 hQ97
  subst l97 y97 z97
  obtain ⟨rfl, Nq97, Kq97, U97_0, U97_1, U97_2, U97_3, U97_4⟩ := hQ97
  have Q98 : Exa Z T97.heap a1 "com/example/axiomwright/axiomwright/Arcs" := Q85.keep Kq97
  have Q99 : Fld Z T97.heap a2 "com/example/axiomwright/axiomwright/Arcs" "size" "I" (.int (2 : Int32)) := Q86.keep Kq97 (ninS ne_a2_a1 (ninS ne_a2_b1 (ninS ne_a2_b2 nin0)))
  have Q100 : Fld Z T97.heap a2 "com/example/axiomwright/axiomwright/Arcs" "from" "[I" (.ref c1) := Q87.keep Kq97 (ninS ne_a2_a1 (ninS ne_a2_b1 (ninS ne_a2_b2 nin0)))
  have Q101 : Fld Z T97.heap a2 "com/example/axiomwright/axiomwright/Arcs" "to" "[I" (.ref c2) := Q88.keep Kq97 (ninS ne_a2_a1 (ninS ne_a2_b1 (ninS ne_a2_b2 nin0)))
  have Q102 : Arv Z T97.heap c1 j1 .int (16 : Int32) [(.int u0), (.int u1), (.int u2), (.int u3), (.int u4), (.int u5), (.int u6), (.int u7), (.int u8), (.int u9), (.int u10), (.int u11), (.int u12), (.int u13), (.int u14), (.int u15)] (.int (0 : Int32)) := Q89.keep Kq97 (ninS ne_c1_a1 (ninS ne_c1_b1 (ninS ne_c1_b2 nin0)))
  have Q103 : Arv Z T97.heap c2 j2 .int (16 : Int32) [(.int v0), (.int v1), (.int v2), (.int v3), (.int v4), (.int v5), (.int v6), (.int v7), (.int v8), (.int v9), (.int v10), (.int v11), (.int v12), (.int v13), (.int v14), (.int v15)] (.int (0 : Int32)) := Q90.keep Kq97 (ninS ne_c2_a1 (ninS ne_c2_b1 (ninS ne_c2_b2 nin0)))
  have U97_0n : Fld Z T97.heap a1 "com/example/axiomwright/axiomwright/Arcs" "size" "I" (.int (4 : Int32)) := U97_0
  have U97_3n : Arv Z T97.heap b1 k1 .int (16 : Int32) [(.int x0), (.int x1), (.int u0), (.int u1), (.int x4), (.int x5), (.int x6), (.int x7), (.int x8), (.int x9), (.int x10), (.int x11), (.int x12), (.int x13), (.int x14), (.int x15)] (.int (0 : Int32)) := U97_3
  have U97_4n : Arv Z T97.heap b2 k2 .int (16 : Int32) [(.int y0), (.int y1), (.int v0), (.int v1), (.int y4), (.int y5), (.int y6), (.int y7), (.int y8), (.int y9), (.int y10), (.int y11), (.int y12), (.int y13), (.int y14), (.int y15)] (.int (0 : Int32)) := U97_4
  have Z97 : n0 ≤ T97.heap.size := Nat.le_trans Z84 Kq97.1
  have K97 : Keep h0 T97.heap [a1, b1, b2] := K84.trans Kq97 (allS (Or.inl (List.mem_of_getElem? (i := 0) rfl)) (allS (Or.inl (List.mem_of_getElem? (i := 1) rfl)) (allS (Or.inl (List.mem_of_getElem? (i := 2) rfl)) all0)))
  have N97 := Fr.app N84 Nq97
  refine own_go (A := _) (B := T97.setTop (mkF m 26 #[.val (.ref a1), .val (.ref a2), .val (.int (1 : Int32))] [])) (fun t k => st97.trans k) ?_
  refine own_go (A := T97.setTop (mkF m 26 #[.val (.ref a1), .val (.ref a2), .val (.int (1 : Int32))] [])) (B := T97.setTop (mkF m 4 #[.val (.ref a1), .val (.ref a2), .val (.int (2 : Int32))] [(.ref a2), (.int (2 : Int32))])) (fun t k => ?_) ?_
  · show Steps p.tables e below (T97.setTop (mkF m 26 #[.val (.ref a1), .val (.ref a2), .val (.int (1 : Int32))] [])) _
    refine XS.iinc X97.here hx rfl (hb hby d4_26) rfl (l' := #[.val (.ref a1), .val (.ref a2), .val (.int (2 : Int32))]) rfl ?_
    show Steps p.tables e below (T97.setTop (mkF m 29 #[.val (.ref a1), .val (.ref a2), .val (.int (2 : Int32))] [])) _
    refine XS.goto X97.here hx rfl (pc0 := 29) (pc' := 2) rfl (hb hby d4_29) (by decide) (by decide) ?_
    show Steps p.tables e below (T97.setTop (mkF m 2 #[.val (.ref a1), .val (.ref a2), .val (.int (2 : Int32))] [])) _
    refine XS.iloadN X97.here hx rfl (hb hby d4_2) rfl ?_
    show Steps p.tables e below (T97.setTop (mkF m 3 #[.val (.ref a1), .val (.ref a2), .val (.int (2 : Int32))] [(.int (2 : Int32))])) _
    refine XS.aloadN X97.here hx rfl (hb hby d4_3) rfl rfl ?_
    exact k
  obtain ⟨T104, X104, e104, st104⟩ := getF X97 hx hZ hown (host := "") (Or.inl (hw _ (List.mem_of_getElem? (i := 19) rfl))) Via.refl rfl Q99 (g := (mkF m 4 #[.val (.ref a1), .val (.ref a2), .val (.int (2 : Int32))] [(.ref a2), (.int (2 : Int32))])) rfl rfl (hb hby d4_4)
  refine own_go st104 ?_
  refine own_go (A := T104.setTop (mkF m 7 #[.val (.ref a1), .val (.ref a2), .val (.int (2 : Int32))] [(.int (2 : Int32)), (.int (2 : Int32))])) (B := T104.setTop (mkF m 32 #[.val (.ref a1), .val (.ref a2), .val (.int (2 : Int32))] [])) (fun t k => ?_) ?_
  · show Steps p.tables e below (T104.setTop (mkF m 7 #[.val (.ref a1), .val (.ref a2), .val (.int (2 : Int32))] [(.int (2 : Int32)), (.int (2 : Int32))])) _
    refine XS.icmpYes X104.here hx rfl (pc0 := 7) (pc' := 32) rfl (hb hby d4_7) rfl (flt Int32.lt_irrefl).2.1 (by decide) (by decide) ?_
    exact k
  obtain ⟨fs, hr, hrun, hended, hW, hsame⟩ := X104.leave (v := none) (fun _ => rfl)
  refine ⟨_, _, ?_, hrun, hended, _, _, rfl, ?_, ⟨_, rfl⟩, hW, hsame.mono (by decide) (by decide)⟩
  · show Steps p.tables e below (T104.setTop (mkF m 32 #[.val (.ref a1), .val (.ref a2), .val (.int (2 : Int32))] [])) _
    exact X104.returnOut hx Bd.returns (hb hby d4_32) hr
  · show Qrm4_2_2 Z a1 a2 b1 b2 c1 c2 k1 k2 j1 j2 x0 x1 x2 x3 x4 x5 x6 x7 x8 x9 x10 x11 x12 x13 x14 x15 y0 y1 y2 y3 y4 y5 y6 y7 y8 y9 y10 y11 y12 y13 y14 y15 u0 u1 u2 u3 u4 u5 u6 u7 u8 u9 u10 u11 u12 u13 u14 u15 v0 v1 v2 v3 v4 v5 v6 v7 v8 v9 v10 v11 v12 v13 v14 v15 h0 n0 _ T104.heap _
    rw [e104]
    exact ⟨rfl, N97, K97, U97_0n, U97_1, U97_2, U97_3n, U97_4n⟩
def Qrm4_2_4 (Z : State) (a1 : Addr) (a2 : Addr) (b1 : Addr) (b2 : Addr) (c1 : Addr) (c2 : Addr) (k1 : ClassId) (k2 : ClassId) (j1 : ClassId) (j2 : ClassId) (x0 : Int32) (x1 : Int32) (x2 : Int32) (x3 : Int32) (x4 : Int32) (x5 : Int32) (x6 : Int32) (x7 : Int32) (x8 : Int32) (x9 : Int32) (x10 : Int32) (x11 : Int32) (x12 : Int32) (x13 : Int32) (x14 : Int32) (x15 : Int32) (y0 : Int32) (y1 : Int32) (y2 : Int32) (y3 : Int32) (y4 : Int32) (y5 : Int32) (y6 : Int32) (y7 : Int32) (y8 : Int32) (y9 : Int32) (y10 : Int32) (y11 : Int32) (y12 : Int32) (y13 : Int32) (y14 : Int32) (y15 : Int32) (u0 : Int32) (u1 : Int32) (u2 : Int32) (u3 : Int32) (u4 : Int32) (u5 : Int32) (u6 : Int32) (u7 : Int32) (u8 : Int32) (u9 : Int32) (u10 : Int32) (u11 : Int32) (u12 : Int32) (u13 : Int32) (u14 : Int32) (u15 : Int32) (v0 : Int32) (v1 : Int32) (v2 : Int32) (v3 : Int32) (v4 : Int32) (v5 : Int32) (v6 : Int32) (v7 : Int32) (v8 : Int32) (v9 : Int32) (v10 : Int32) (v11 : Int32) (v12 : Int32) (v13 : Int32) (v14 : Int32) (v15 : Int32) (h0 : Heap) (n0 : Nat) (v : Option Value) (h : Heap) (L : List Loc) : Prop := v = none ∧ Fr n0 L ∧ Keep h0 h [a1, b1, b2] ∧ Fld Z h a1 "com/example/axiomwright/axiomwright/Arcs" "size" "I" (.int (6 : Int32)) ∧ Fld Z h a1 "com/example/axiomwright/axiomwright/Arcs" "from" "[I" (.ref b1) ∧ Fld Z h a1 "com/example/axiomwright/axiomwright/Arcs" "to" "[I" (.ref b2) ∧ Arv Z h b1 k1 .int (16 : Int32) [(.int x0), (.int x1), (.int u0), (.int u1), (.int u2), (.int u3), (.int x6), (.int x7), (.int x8), (.int x9), (.int x10), (.int x11), (.int x12), (.int x13), (.int x14), (.int x15)] (.int (0 : Int32)) ∧ Arv Z h b2 k2 .int (16 : Int32) [(.int y0), (.int y1), (.int v0), (.int v1), (.int v2), (.int v3), (.int y6), (.int y7), (.int y8), (.int y9), (.int y10), (.int y11), (.int y12), (.int y13), (.int y14), (.int y15)] (.int (0 : Int32))
theorem efrm4_2_4 (m : MethodId) (x0 : Addr) (x1 : Addr) : entryFrame m #[(.ref x0), (.ref x1)] 3 = mkF m 0 #[.val (.ref x0), .val (.ref x1), .unset] [] := by first | (simp [entryFrame, mkF, argsToLocals, Value.category]; done) | rfl
set_option maxRecDepth 65536 in
set_option maxHeartbeats 40000000 in
theorem rm4_2_4 (l : Launch) (Z : State) (a0 : Array Value) (hw : ∀ d ∈ tables_1, d.before a0 Z = true) (ws : List Jvm.Cond) (a1 : Addr) (a2 : Addr) (b1 : Addr) (b2 : Addr) (c1 : Addr) (c2 : Addr) (k1 : ClassId) (k2 : ClassId) (j1 : ClassId) (j2 : ClassId) (x0 : Int32) (x1 : Int32) (x2 : Int32) (x3 : Int32) (x4 : Int32) (x5 : Int32) (x6 : Int32) (x7 : Int32) (x8 : Int32) (x9 : Int32) (x10 : Int32) (x11 : Int32) (x12 : Int32) (x13 : Int32) (x14 : Int32) (x15 : Int32) (y0 : Int32) (y1 : Int32) (y2 : Int32) (y3 : Int32) (y4 : Int32) (y5 : Int32) (y6 : Int32) (y7 : Int32) (y8 : Int32) (y9 : Int32) (y10 : Int32) (y11 : Int32) (y12 : Int32) (y13 : Int32) (y14 : Int32) (y15 : Int32) (u0 : Int32) (u1 : Int32) (u2 : Int32) (u3 : Int32) (u4 : Int32) (u5 : Int32) (u6 : Int32) (u7 : Int32) (u8 : Int32) (u9 : Int32) (u10 : Int32) (u11 : Int32) (u12 : Int32) (u13 : Int32) (u14 : Int32) (u15 : Int32) (v0 : Int32) (v1 : Int32) (v2 : Int32) (v3 : Int32) (v4 : Int32) (v5 : Int32) (v6 : Int32) (v7 : Int32) (v8 : Int32) (v9 : Int32) (v10 : Int32) (v11 : Int32) (v12 : Int32) (v13 : Int32) (v14 : Int32) (v15 : Int32) (h0 : Heap) (n0 : Nat) (Z0 : n0 ≤ h0.size) (P0 : Exa Z h0 a1 "com/example/axiomwright/axiomwright/Arcs") (P1 : Fld Z h0 a1 "com/example/axiomwright/axiomwright/Arcs" "size" "I" (.int (2 : Int32))) (P2 : Fld Z h0 a1 "com/example/axiomwright/axiomwright/Arcs" "from" "[I" (.ref b1)) (P3 : Fld Z h0 a1 "com/example/axiomwright/axiomwright/Arcs" "to" "[I" (.ref b2)) (P4 : Arv Z h0 b1 k1 .int (16 : Int32) [(.int x0), (.int x1), (.int x2), (.int x3), (.int x4), (.int x5), (.int x6), (.int x7), (.int x8), (.int x9), (.int x10), (.int x11), (.int x12), (.int x13), (.int x14), (.int x15)] (.int (0 : Int32))) (P5 : Arv Z h0 b2 k2 .int (16 : Int32) [(.int y0), (.int y1), (.int y2), (.int y3), (.int y4), (.int y5), (.int y6), (.int y7), (.int y8), (.int y9), (.int y10), (.int y11), (.int y12), (.int y13), (.int y14), (.int y15)] (.int (0 : Int32))) (P6 : Fld Z h0 a2 "com/example/axiomwright/axiomwright/Arcs" "size" "I" (.int (4 : Int32))) (P7 : Fld Z h0 a2 "com/example/axiomwright/axiomwright/Arcs" "from" "[I" (.ref c1)) (P8 : Fld Z h0 a2 "com/example/axiomwright/axiomwright/Arcs" "to" "[I" (.ref c2)) (P9 : Arv Z h0 c1 j1 .int (16 : Int32) [(.int u0), (.int u1), (.int u2), (.int u3), (.int u4), (.int u5), (.int u6), (.int u7), (.int u8), (.int u9), (.int u10), (.int u11), (.int u12), (.int u13), (.int u14), (.int u15)] (.int (0 : Int32))) (P10 : Arv Z h0 c2 j2 .int (16 : Int32) [(.int v0), (.int v1), (.int v2), (.int v3), (.int v4), (.int v5), (.int v6), (.int v7), (.int v8), (.int v9), (.int v10), (.int v11), (.int v12), (.int v13), (.int v14), (.int v15)] (.int (0 : Int32))) (g_a1 : n0 ≤ a1) (g_b1 : n0 ≤ b1) (g_b2 : n0 ≤ b2) (ne_a1_b1 : a1 ≠ b1) (ne_a1_b2 : a1 ≠ b2) (ne_b1_b2 : b1 ≠ b2) (ne_a2_a1 : a2 ≠ a1) (ne_a2_b1 : a2 ≠ b1) (ne_a2_b2 : a2 ≠ b2) (ne_c1_a1 : c1 ≠ a1) (ne_c1_b1 : c1 ≠ b1) (ne_c1_b2 : c1 ≠ b2) (ne_c2_a1 : c2 ≠ a1) (ne_c2_b1 : c2 ≠ b1) (ne_c2_b2 : c2 ≠ b2) :
    MetFree l (⟨"com/example/axiomwright/axiomwright/Arcs", "addAll", "(Lcom/example/axiomwright/axiomwright/Arcs;)V"⟩ : MethodName) (head1 (Jvm.Cond.code (⟨"com/example/axiomwright/axiomwright/Arcs", "addAll", "(Lcom/example/axiomwright/axiomwright/Arcs;)V"⟩ : MethodName) prog_2_method_4_code 3 none :: ws) ({ frames := 1, cells := 0, slots := 0, locals := 14 } : Room)) (fun a U => a = #[(.ref a1), (.ref a2)] ∧ Z.Warmed39 U.vm ∧ U.heap = h0) (fun _ _ _ _ _ => True) (fun _ U o U' => ∃ v L, o = .returned v ∧ Qrm4_2_4 Z a1 a2 b1 b2 c1 c2 k1 k2 j1 j2 x0 x1 x2 x3 x4 x5 x6 x7 x8 x9 x10 x11 x12 x13 x14 x15 y0 y1 y2 y3 y4 y5 y6 y7 y8 y9 y10 y11 y12 y13 y14 y15 u0 u1 u2 u3 u4 u5 u6 u7 u8 u9 u10 u11 u12 u13 u14 u15 v0 v1 v2 v3 v4 v5 v6 v7 v8 v9 v10 v11 v12 v13 v14 v15 h0 n0 v U'.heap L ∧ FrameEnd U o U' L ({ frames := 1, cells := 0, slots := 0, locals := 14 } : Room).cells ({ frames := 1, cells := 0, slots := 0, locals := 14 } : Room).slots) := by
  refine MetFree.of_bodySF (plainFor_of_name pn_0) hisR ?_
  intro p e s m args below meth c s₁ Bd hml0 hP hK
  obtain ⟨rfl, hZ, hh⟩ := hP
  have hx := Bd.exec
  have hby := Bd.bytes
  have hml : c.maxLocals = 3 := hml0
  have hown : s.vm.findClass "com/example/axiomwright/axiomwright/Arcs" = some m.cls := findClass_of_methodNamed Bd.named
  have hnm := (name_of_methodNamed Bd.named Bd.method).1
  have X0 : Stand p l e ({ frames := 1, cells := 0, slots := 0, locals := 14 } : Room) s m #[(.ref a1), (.ref a2)] below meth c s₁ [] 0 0 := Stand.of_body Bd
  have e0 : s₁.heap = h0 := by rw [← hh, Bd.state]; rfl
  have N0 := Fr.nil n0
  have K0 : Keep h0 h0 [a1, b1, b2] := Keep.refl h0 _
  refine own_go (B := s₁.setTop (mkF m 0 #[.val (.ref a1), .val (.ref a2), .unset] [])) (fun t k => castTop (efrm4_2_4 m a1 a2) k) ?_
  refine own_go (A := s₁.setTop (mkF m 0 #[.val (.ref a1), .val (.ref a2), .unset] [])) (B := s₁.setTop (mkF m 4 #[.val (.ref a1), .val (.ref a2), .val (.int (0 : Int32))] [(.ref a2), (.int (0 : Int32))])) (fun t k => ?_) ?_
  · show Steps p.tables e below (s₁.setTop (mkF m 0 #[.val (.ref a1), .val (.ref a2), .unset] [])) _
    refine XS.iconst X0.here hx rfl (hb hby d4_0) ?_
    show Steps p.tables e below (s₁.setTop (mkF m 1 #[.val (.ref a1), .val (.ref a2), .unset] [(.int (0 : Int32))])) _
    refine XS.istoreN X0.here hx rfl (hb hby d4_1) rfl (l' := #[.val (.ref a1), .val (.ref a2), .val (.int (0 : Int32))]) rfl ?_
    show Steps p.tables e below (s₁.setTop (mkF m 2 #[.val (.ref a1), .val (.ref a2), .val (.int (0 : Int32))] [])) _
    refine XS.iloadN X0.here hx rfl (hb hby d4_2) rfl ?_
    show Steps p.tables e below (s₁.setTop (mkF m 3 #[.val (.ref a1), .val (.ref a2), .val (.int (0 : Int32))] [(.int (0 : Int32))])) _
    refine XS.aloadN X0.here hx rfl (hb hby d4_3) rfl rfl ?_
    exact k
  obtain ⟨T106, X106, e106, st106⟩ := getF X0 hx hZ hown (host := "") (Or.inl (hw _ (List.mem_of_getElem? (i := 19) rfl))) Via.refl e0 P6 (g := (mkF m 4 #[.val (.ref a1), .val (.ref a2), .val (.int (0 : Int32))] [(.ref a2), (.int (0 : Int32))])) rfl rfl (hb hby d4_4)
  refine own_go st106 ?_
  refine own_go (A := T106.setTop (mkF m 7 #[.val (.ref a1), .val (.ref a2), .val (.int (0 : Int32))] [(.int (4 : Int32)), (.int (0 : Int32))])) (B := T106.setTop (mkF m 12 #[.val (.ref a1), .val (.ref a2), .val (.int (0 : Int32))] [(.ref a2), (.ref a1)])) (fun t k => ?_) ?_
  · show Steps p.tables e below (T106.setTop (mkF m 7 #[.val (.ref a1), .val (.ref a2), .val (.int (0 : Int32))] [(.int (4 : Int32)), (.int (0 : Int32))])) _
    refine XS.icmpNo X106.here hx rfl (hb hby d4_7) rfl (tlt (by decide : ((0 : Int32) < (4 : Int32)))).2.1 ?_
    show Steps p.tables e below (T106.setTop (mkF m 10 #[.val (.ref a1), .val (.ref a2), .val (.int (0 : Int32))] [])) _
    refine XS.aloadN X106.here hx rfl (hb hby d4_10) rfl rfl ?_
    show Steps p.tables e below (T106.setTop (mkF m 11 #[.val (.ref a1), .val (.ref a2), .val (.int (0 : Int32))] [(.ref a1)])) _
    refine XS.aloadN X106.here hx rfl (hb hby d4_11) rfl rfl ?_
    exact k
  obtain ⟨T108, X108, e108, st108⟩ := getF X106 hx hZ hown (host := "") (Or.inl (hw _ (List.mem_of_getElem? (i := 10) rfl))) Via.refl e106 P7 (g := (mkF m 12 #[.val (.ref a1), .val (.ref a2), .val (.int (0 : Int32))] [(.ref a2), (.ref a1)])) rfl rfl (hb hby d4_12)
  refine own_go st108 ?_
  refine own_go (A := T108.setTop (mkF m 15 #[.val (.ref a1), .val (.ref a2), .val (.int (0 : Int32))] [(.ref c1), (.ref a1)])) (B := T108.setTop (mkF m 16 #[.val (.ref a1), .val (.ref a2), .val (.int (0 : Int32))] [(.int (0 : Int32)), (.ref c1), (.ref a1)])) (fun t k => ?_) ?_
  · show Steps p.tables e below (T108.setTop (mkF m 15 #[.val (.ref a1), .val (.ref a2), .val (.int (0 : Int32))] [(.ref c1), (.ref a1)])) _
    refine XS.iloadN X108.here hx rfl (hb hby d4_15) rfl ?_
    exact k
  obtain ⟨cl109, Ar109, q109, S109, M109, Ha109, G109⟩ := id P9
  have hin109 : ¬ ((0 : Int32) < 0 ∨ cl109.slots.size ≤ ((0 : Int32)).toNatClampNeg) := inb_of S109 ⟨by decide, by decide⟩
  refine own_go (A := T108.setTop (mkF m 16 #[.val (.ref a1), .val (.ref a2), .val (.int (0 : Int32))] [(.int (0 : Int32)), (.ref c1), (.ref a1)])) (X108.iaload hx (j := (0 : Int32)) (v := (.int u0)) (by rw [e108]; exact Ar109.1) (State.isArrayOf_alike hZ.alike Ar109.2.1) Ar109.2.2 hin109 (Has.at Ha109 hin109 rfl) (g := (mkF m 16 #[.val (.ref a1), .val (.ref a2), .val (.int (0 : Int32))] [(.int (0 : Int32)), (.ref c1), (.ref a1)])) rfl rfl (hb hby d4_16)) ?_
  refine own_go (A := T108.setTop (mkF m 17 #[.val (.ref a1), .val (.ref a2), .val (.int (0 : Int32))] [(.int u0), (.ref a1)])) (B := T108.setTop (mkF m 18 #[.val (.ref a1), .val (.ref a2), .val (.int (0 : Int32))] [(.ref a2), (.int u0), (.ref a1)])) (fun t k => ?_) ?_
  · show Steps p.tables e below (T108.setTop (mkF m 17 #[.val (.ref a1), .val (.ref a2), .val (.int (0 : Int32))] [(.int u0), (.ref a1)])) _
    refine XS.aloadN X108.here hx rfl (hb hby d4_17) rfl rfl ?_
    exact k
  obtain ⟨T110, X110, e110, st110⟩ := getF X108 hx hZ hown (host := "") (Or.inl (hw _ (List.mem_of_getElem? (i := 12) rfl))) Via.refl e108 P8 (g := (mkF m 18 #[.val (.ref a1), .val (.ref a2), .val (.int (0 : Int32))] [(.ref a2), (.int u0), (.ref a1)])) rfl rfl (hb hby d4_18)
  refine own_go st110 ?_
  refine own_go (A := T110.setTop (mkF m 21 #[.val (.ref a1), .val (.ref a2), .val (.int (0 : Int32))] [(.ref c2), (.int u0), (.ref a1)])) (B := T110.setTop (mkF m 22 #[.val (.ref a1), .val (.ref a2), .val (.int (0 : Int32))] [(.int (0 : Int32)), (.ref c2), (.int u0), (.ref a1)])) (fun t k => ?_) ?_
  · show Steps p.tables e below (T110.setTop (mkF m 21 #[.val (.ref a1), .val (.ref a2), .val (.int (0 : Int32))] [(.ref c2), (.int u0), (.ref a1)])) _
    refine XS.iloadN X110.here hx rfl (hb hby d4_21) rfl ?_
    exact k
  obtain ⟨cl111, Ar111, q111, S111, M111, Ha111, G111⟩ := id P10
  have hin111 : ¬ ((0 : Int32) < 0 ∨ cl111.slots.size ≤ ((0 : Int32)).toNatClampNeg) := inb_of S111 ⟨by decide, by decide⟩
  refine own_go (A := T110.setTop (mkF m 22 #[.val (.ref a1), .val (.ref a2), .val (.int (0 : Int32))] [(.int (0 : Int32)), (.ref c2), (.int u0), (.ref a1)])) (X110.iaload hx (j := (0 : Int32)) (v := (.int v0)) (by rw [e110]; exact Ar111.1) (State.isArrayOf_alike hZ.alike Ar111.2.1) Ar111.2.2 hin111 (Has.at Ha111 hin111 rfl) (g := (mkF m 22 #[.val (.ref a1), .val (.ref a2), .val (.int (0 : Int32))] [(.int (0 : Int32)), (.ref c2), (.int u0), (.ref a1)])) rfl rfl (hb hby d4_22)) ?_
  obtain ⟨cq112, kq112, q112a, q112b, q112c⟩ := isOf hZ e110 P0
  obtain ⟨_, _, ⟨T112, L112, k112, n112⟩, -, X112, ⟨Lc112, hQ112, l112, y112, z112⟩, st112⟩ := X110.virtualBack hx (y := (⟨"com/example/axiomwright/axiomwright/Arcs", "add", "(II)V"⟩ : MethodName)) (z := (⟨"com/example/axiomwright/axiomwright/Arcs", "add", "(II)V"⟩ : MethodName)) hown (mvT hZ (hw _ (List.mem_of_getElem? (i := 26) rfl))) (mvT hZ (hw _ (List.mem_of_getElem? (i := 15) rfl))) (notFace_of_selects (args := #[]) (mvT hZ (hw _ (List.mem_of_getElem? (i := 17) rfl)))) (mvT hZ (hw _ (List.mem_of_getElem? (i := 17) rfl))) (mvT hZ (hw _ (List.mem_of_getElem? (i := 16) rfl))) (by decide) (backOf (W := 0) (rm3 l Z a0 hw [] a1 u0 v0 (2 : Int32) b1 b2 k1 k2 [(.int x0), (.int x1), (.int x2), (.int x3), (.int x4), (.int x5), (.int x6), (.int x7), (.int x8), (.int x9), (.int x10), (.int x11), (.int x12), (.int x13), (.int x14), (.int x15)] [(.int y0), (.int y1), (.int y2), (.int y3), (.int y4), (.int y5), (.int y6), (.int y7), (.int y8), (.int y9), (.int y10), (.int y11), (.int y12), (.int y13), (.int y14), (.int y15)] h0 n0 Z0 P0 P1 P2 P3 P4 P5 g_a1 g_b1 g_b2 ne_a1_b1 ne_a1_b2 ne_b1_b2 (by decide) (by decide) (by decide) (Nat.le_of_ble_eq_true rfl) (Nat.le_of_ble_eq_true rfl)) hZ (hw _ (List.mem_of_getElem? (i := 18) rfl)) (hw _ (List.mem_of_getElem? (i := 2) rfl)) (by decide) (by decide)) q112a q112c (g := (mkF m 23 #[.val (.ref a1), .val (.ref a2), .val (.int (0 : Int32))] [(.int v0), (.int u0), (.ref a1)])) rfl (by rw [hml]; rfl) (Steps.refl _) (argsL := [(.int u0), (.int v0)]) (rest := []) (lenOf pd_0 rfl) rfl (by show 2 * 0 + _ ≤ _; exact Nat.le_of_eq rfl) (hb hby d4_23) (fun _ _ => ⟨rfl, e110, (by decide : 0 + 0 ≤ _), (by decide : 0 + 0 ≤ _)⟩)
  dsimp only [Pt.U, Pt.locs, Pt.cells, Pt.slots] at X112 l112 y112 z112 st112 hQ112
  subst l112 y112 z112
  obtain ⟨rfl, Nq112, Kq112, U112_0, U112_1, U112_2, U112_3, U112_4⟩ := hQ112
  have Q113 : Exa Z T112.heap a1 "com/example/axiomwright/axiomwright/Arcs" := P0.keep Kq112
  have Q114 : Fld Z T112.heap a2 "com/example/axiomwright/axiomwright/Arcs" "size" "I" (.int (4 : Int32)) := P6.keep Kq112 (ninS ne_a2_a1 (ninS ne_a2_b1 (ninS ne_a2_b2 nin0)))
  have Q115 : Fld Z T112.heap a2 "com/example/axiomwright/axiomwright/Arcs" "from" "[I" (.ref c1) := P7.keep Kq112 (ninS ne_a2_a1 (ninS ne_a2_b1 (ninS ne_a2_b2 nin0)))
  have Q116 : Fld Z T112.heap a2 "com/example/axiomwright/axiomwright/Arcs" "to" "[I" (.ref c2) := P8.keep Kq112 (ninS ne_a2_a1 (ninS ne_a2_b1 (ninS ne_a2_b2 nin0)))
  have Q117 : Arv Z T112.heap c1 j1 .int (16 : Int32) [(.int u0), (.int u1), (.int u2), (.int u3), (.int u4), (.int u5), (.int u6), (.int u7), (.int u8), (.int u9), (.int u10), (.int u11), (.int u12), (.int u13), (.int u14), (.int u15)] (.int (0 : Int32)) := P9.keep Kq112 (ninS ne_c1_a1 (ninS ne_c1_b1 (ninS ne_c1_b2 nin0)))
  have Q118 : Arv Z T112.heap c2 j2 .int (16 : Int32) [(.int v0), (.int v1), (.int v2), (.int v3), (.int v4), (.int v5), (.int v6), (.int v7), (.int v8), (.int v9), (.int v10), (.int v11), (.int v12), (.int v13), (.int v14), (.int v15)] (.int (0 : Int32)) := P10.keep Kq112 (ninS ne_c2_a1 (ninS ne_c2_b1 (ninS ne_c2_b2 nin0)))
  have U112_0n : Fld Z T112.heap a1 "com/example/axiomwright/axiomwright/Arcs" "size" "I" (.int (3 : Int32)) := U112_0
  have U112_3n : Arv Z T112.heap b1 k1 .int (16 : Int32) [(.int x0), (.int x1), (.int u0), (.int x3), (.int x4), (.int x5), (.int x6), (.int x7), (.int x8), (.int x9), (.int x10), (.int x11), (.int x12), (.int x13), (.int x14), (.int x15)] (.int (0 : Int32)) := U112_3
  have U112_4n : Arv Z T112.heap b2 k2 .int (16 : Int32) [(.int y0), (.int y1), (.int v0), (.int y3), (.int y4), (.int y5), (.int y6), (.int y7), (.int y8), (.int y9), (.int y10), (.int y11), (.int y12), (.int y13), (.int y14), (.int y15)] (.int (0 : Int32)) := U112_4
  have Z112 : n0 ≤ T112.heap.size := Nat.le_trans Z0 Kq112.1
  have K112 : Keep h0 T112.heap [a1, b1, b2] := K0.trans Kq112 (allS (Or.inl (List.mem_of_getElem? (i := 0) rfl)) (allS (Or.inl (List.mem_of_getElem? (i := 1) rfl)) (allS (Or.inl (List.mem_of_getElem? (i := 2) rfl)) all0)))
  have N112 := Fr.app N0 Nq112
  refine own_go (A := _) (B := T112.setTop (mkF m 26 #[.val (.ref a1), .val (.ref a2), .val (.int (0 : Int32))] [])) (fun t k => st112.trans k) ?_
  refine own_go (A := T112.setTop (mkF m 26 #[.val (.ref a1), .val (.ref a2), .val (.int (0 : Int32))] [])) (B := T112.setTop (mkF m 4 #[.val (.ref a1), .val (.ref a2), .val (.int (1 : Int32))] [(.ref a2), (.int (1 : Int32))])) (fun t k => ?_) ?_
  · show Steps p.tables e below (T112.setTop (mkF m 26 #[.val (.ref a1), .val (.ref a2), .val (.int (0 : Int32))] [])) _
    refine XS.iinc X112.here hx rfl (hb hby d4_26) rfl (l' := #[.val (.ref a1), .val (.ref a2), .val (.int (1 : Int32))]) rfl ?_
    show Steps p.tables e below (T112.setTop (mkF m 29 #[.val (.ref a1), .val (.ref a2), .val (.int (1 : Int32))] [])) _
    refine XS.goto X112.here hx rfl (pc0 := 29) (pc' := 2) rfl (hb hby d4_29) (by decide) (by decide) ?_
    show Steps p.tables e below (T112.setTop (mkF m 2 #[.val (.ref a1), .val (.ref a2), .val (.int (1 : Int32))] [])) _
    refine XS.iloadN X112.here hx rfl (hb hby d4_2) rfl ?_
    show Steps p.tables e below (T112.setTop (mkF m 3 #[.val (.ref a1), .val (.ref a2), .val (.int (1 : Int32))] [(.int (1 : Int32))])) _
    refine XS.aloadN X112.here hx rfl (hb hby d4_3) rfl rfl ?_
    exact k
  obtain ⟨T119, X119, e119, st119⟩ := getF X112 hx hZ hown (host := "") (Or.inl (hw _ (List.mem_of_getElem? (i := 19) rfl))) Via.refl rfl Q114 (g := (mkF m 4 #[.val (.ref a1), .val (.ref a2), .val (.int (1 : Int32))] [(.ref a2), (.int (1 : Int32))])) rfl rfl (hb hby d4_4)
  refine own_go st119 ?_
  refine own_go (A := T119.setTop (mkF m 7 #[.val (.ref a1), .val (.ref a2), .val (.int (1 : Int32))] [(.int (4 : Int32)), (.int (1 : Int32))])) (B := T119.setTop (mkF m 12 #[.val (.ref a1), .val (.ref a2), .val (.int (1 : Int32))] [(.ref a2), (.ref a1)])) (fun t k => ?_) ?_
  · show Steps p.tables e below (T119.setTop (mkF m 7 #[.val (.ref a1), .val (.ref a2), .val (.int (1 : Int32))] [(.int (4 : Int32)), (.int (1 : Int32))])) _
    refine XS.icmpNo X119.here hx rfl (hb hby d4_7) rfl (tlt (by decide : ((1 : Int32) < (4 : Int32)))).2.1 ?_
    show Steps p.tables e below (T119.setTop (mkF m 10 #[.val (.ref a1), .val (.ref a2), .val (.int (1 : Int32))] [])) _
    refine XS.aloadN X119.here hx rfl (hb hby d4_10) rfl rfl ?_
    show Steps p.tables e below (T119.setTop (mkF m 11 #[.val (.ref a1), .val (.ref a2), .val (.int (1 : Int32))] [(.ref a1)])) _
    refine XS.aloadN X119.here hx rfl (hb hby d4_11) rfl rfl ?_
    exact k
  obtain ⟨T121, X121, e121, st121⟩ := getF X119 hx hZ hown (host := "") (Or.inl (hw _ (List.mem_of_getElem? (i := 10) rfl))) Via.refl e119 Q115 (g := (mkF m 12 #[.val (.ref a1), .val (.ref a2), .val (.int (1 : Int32))] [(.ref a2), (.ref a1)])) rfl rfl (hb hby d4_12)
  refine own_go st121 ?_
  refine own_go (A := T121.setTop (mkF m 15 #[.val (.ref a1), .val (.ref a2), .val (.int (1 : Int32))] [(.ref c1), (.ref a1)])) (B := T121.setTop (mkF m 16 #[.val (.ref a1), .val (.ref a2), .val (.int (1 : Int32))] [(.int (1 : Int32)), (.ref c1), (.ref a1)])) (fun t k => ?_) ?_
  · show Steps p.tables e below (T121.setTop (mkF m 15 #[.val (.ref a1), .val (.ref a2), .val (.int (1 : Int32))] [(.ref c1), (.ref a1)])) _
    refine XS.iloadN X121.here hx rfl (hb hby d4_15) rfl ?_
    exact k
  obtain ⟨cl122, Ar122, q122, S122, M122, Ha122, G122⟩ := id Q117
  have hin122 : ¬ ((1 : Int32) < 0 ∨ cl122.slots.size ≤ ((1 : Int32)).toNatClampNeg) := inb_of S122 ⟨by decide, by decide⟩
  refine own_go (A := T121.setTop (mkF m 16 #[.val (.ref a1), .val (.ref a2), .val (.int (1 : Int32))] [(.int (1 : Int32)), (.ref c1), (.ref a1)])) (X121.iaload hx (j := (1 : Int32)) (v := (.int u1)) (by rw [e121]; exact Ar122.1) (State.isArrayOf_alike hZ.alike Ar122.2.1) Ar122.2.2 hin122 (Has.at Ha122 hin122 rfl) (g := (mkF m 16 #[.val (.ref a1), .val (.ref a2), .val (.int (1 : Int32))] [(.int (1 : Int32)), (.ref c1), (.ref a1)])) rfl rfl (hb hby d4_16)) ?_
  refine own_go (A := T121.setTop (mkF m 17 #[.val (.ref a1), .val (.ref a2), .val (.int (1 : Int32))] [(.int u1), (.ref a1)])) (B := T121.setTop (mkF m 18 #[.val (.ref a1), .val (.ref a2), .val (.int (1 : Int32))] [(.ref a2), (.int u1), (.ref a1)])) (fun t k => ?_) ?_
  · show Steps p.tables e below (T121.setTop (mkF m 17 #[.val (.ref a1), .val (.ref a2), .val (.int (1 : Int32))] [(.int u1), (.ref a1)])) _
    refine XS.aloadN X121.here hx rfl (hb hby d4_17) rfl rfl ?_
    exact k
  obtain ⟨T123, X123, e123, st123⟩ := getF X121 hx hZ hown (host := "") (Or.inl (hw _ (List.mem_of_getElem? (i := 12) rfl))) Via.refl e121 Q116 (g := (mkF m 18 #[.val (.ref a1), .val (.ref a2), .val (.int (1 : Int32))] [(.ref a2), (.int u1), (.ref a1)])) rfl rfl (hb hby d4_18)
  refine own_go st123 ?_
  refine own_go (A := T123.setTop (mkF m 21 #[.val (.ref a1), .val (.ref a2), .val (.int (1 : Int32))] [(.ref c2), (.int u1), (.ref a1)])) (B := T123.setTop (mkF m 22 #[.val (.ref a1), .val (.ref a2), .val (.int (1 : Int32))] [(.int (1 : Int32)), (.ref c2), (.int u1), (.ref a1)])) (fun t k => ?_) ?_
  · show Steps p.tables e below (T123.setTop (mkF m 21 #[.val (.ref a1), .val (.ref a2), .val (.int (1 : Int32))] [(.ref c2), (.int u1), (.ref a1)])) _
    refine XS.iloadN X123.here hx rfl (hb hby d4_21) rfl ?_
    exact k
  obtain ⟨cl124, Ar124, q124, S124, M124, Ha124, G124⟩ := id Q118
  have hin124 : ¬ ((1 : Int32) < 0 ∨ cl124.slots.size ≤ ((1 : Int32)).toNatClampNeg) := inb_of S124 ⟨by decide, by decide⟩
  refine own_go (A := T123.setTop (mkF m 22 #[.val (.ref a1), .val (.ref a2), .val (.int (1 : Int32))] [(.int (1 : Int32)), (.ref c2), (.int u1), (.ref a1)])) (X123.iaload hx (j := (1 : Int32)) (v := (.int v1)) (by rw [e123]; exact Ar124.1) (State.isArrayOf_alike hZ.alike Ar124.2.1) Ar124.2.2 hin124 (Has.at Ha124 hin124 rfl) (g := (mkF m 22 #[.val (.ref a1), .val (.ref a2), .val (.int (1 : Int32))] [(.int (1 : Int32)), (.ref c2), (.int u1), (.ref a1)])) rfl rfl (hb hby d4_22)) ?_
  obtain ⟨cq125, kq125, q125a, q125b, q125c⟩ := isOf hZ e123 Q113
  obtain ⟨_, _, ⟨T125, L125, k125, n125⟩, -, X125, ⟨Lc125, hQ125, l125, y125, z125⟩, st125⟩ := X123.virtualBack hx (y := (⟨"com/example/axiomwright/axiomwright/Arcs", "add", "(II)V"⟩ : MethodName)) (z := (⟨"com/example/axiomwright/axiomwright/Arcs", "add", "(II)V"⟩ : MethodName)) hown (mvT hZ (hw _ (List.mem_of_getElem? (i := 26) rfl))) (mvT hZ (hw _ (List.mem_of_getElem? (i := 15) rfl))) (notFace_of_selects (args := #[]) (mvT hZ (hw _ (List.mem_of_getElem? (i := 17) rfl)))) (mvT hZ (hw _ (List.mem_of_getElem? (i := 17) rfl))) (mvT hZ (hw _ (List.mem_of_getElem? (i := 16) rfl))) (by decide) (backOf (W := 0) (rm3 l Z a0 hw [] a1 u1 v1 (3 : Int32) b1 b2 k1 k2 [(.int x0), (.int x1), (.int u0), (.int x3), (.int x4), (.int x5), (.int x6), (.int x7), (.int x8), (.int x9), (.int x10), (.int x11), (.int x12), (.int x13), (.int x14), (.int x15)] [(.int y0), (.int y1), (.int v0), (.int y3), (.int y4), (.int y5), (.int y6), (.int y7), (.int y8), (.int y9), (.int y10), (.int y11), (.int y12), (.int y13), (.int y14), (.int y15)] T112.heap n0 Z112 Q113 U112_0n U112_1 U112_2 U112_3n U112_4n g_a1 g_b1 g_b2 ne_a1_b1 ne_a1_b2 ne_b1_b2 (by decide) (by decide) (by decide) (Nat.le_of_ble_eq_true rfl) (Nat.le_of_ble_eq_true rfl)) hZ (hw _ (List.mem_of_getElem? (i := 18) rfl)) (hw _ (List.mem_of_getElem? (i := 2) rfl)) (by decide) (by decide)) q125a q125c (g := (mkF m 23 #[.val (.ref a1), .val (.ref a2), .val (.int (1 : Int32))] [(.int v1), (.int u1), (.ref a1)])) rfl (by rw [hml]; rfl) (Steps.refl _) (argsL := [(.int u1), (.int v1)]) (rest := []) (lenOf pd_0 rfl) rfl (by show 2 * 0 + _ ≤ _; exact Nat.le_of_eq rfl) (hb hby d4_23) (fun _ _ => ⟨rfl, e123, (by decide : 0 + 0 ≤ _), (by decide : 0 + 0 ≤ _)⟩)
  dsimp only [Pt.U, Pt.locs, Pt.cells, Pt.slots] at X125 l125 y125 z125 st125 hQ125
  subst l125 y125 z125
  obtain ⟨rfl, Nq125, Kq125, U125_0, U125_1, U125_2, U125_3, U125_4⟩ := hQ125
  have Q126 : Exa Z T125.heap a1 "com/example/axiomwright/axiomwright/Arcs" := Q113.keep Kq125
  have Q127 : Fld Z T125.heap a2 "com/example/axiomwright/axiomwright/Arcs" "size" "I" (.int (4 : Int32)) := Q114.keep Kq125 (ninS ne_a2_a1 (ninS ne_a2_b1 (ninS ne_a2_b2 nin0)))
  have Q128 : Fld Z T125.heap a2 "com/example/axiomwright/axiomwright/Arcs" "from" "[I" (.ref c1) := Q115.keep Kq125 (ninS ne_a2_a1 (ninS ne_a2_b1 (ninS ne_a2_b2 nin0)))
  have Q129 : Fld Z T125.heap a2 "com/example/axiomwright/axiomwright/Arcs" "to" "[I" (.ref c2) := Q116.keep Kq125 (ninS ne_a2_a1 (ninS ne_a2_b1 (ninS ne_a2_b2 nin0)))
  have Q130 : Arv Z T125.heap c1 j1 .int (16 : Int32) [(.int u0), (.int u1), (.int u2), (.int u3), (.int u4), (.int u5), (.int u6), (.int u7), (.int u8), (.int u9), (.int u10), (.int u11), (.int u12), (.int u13), (.int u14), (.int u15)] (.int (0 : Int32)) := Q117.keep Kq125 (ninS ne_c1_a1 (ninS ne_c1_b1 (ninS ne_c1_b2 nin0)))
  have Q131 : Arv Z T125.heap c2 j2 .int (16 : Int32) [(.int v0), (.int v1), (.int v2), (.int v3), (.int v4), (.int v5), (.int v6), (.int v7), (.int v8), (.int v9), (.int v10), (.int v11), (.int v12), (.int v13), (.int v14), (.int v15)] (.int (0 : Int32)) := Q118.keep Kq125 (ninS ne_c2_a1 (ninS ne_c2_b1 (ninS ne_c2_b2 nin0)))
  have U125_0n : Fld Z T125.heap a1 "com/example/axiomwright/axiomwright/Arcs" "size" "I" (.int (4 : Int32)) := U125_0
  have U125_3n : Arv Z T125.heap b1 k1 .int (16 : Int32) [(.int x0), (.int x1), (.int u0), (.int u1), (.int x4), (.int x5), (.int x6), (.int x7), (.int x8), (.int x9), (.int x10), (.int x11), (.int x12), (.int x13), (.int x14), (.int x15)] (.int (0 : Int32)) := U125_3
  have U125_4n : Arv Z T125.heap b2 k2 .int (16 : Int32) [(.int y0), (.int y1), (.int v0), (.int v1), (.int y4), (.int y5), (.int y6), (.int y7), (.int y8), (.int y9), (.int y10), (.int y11), (.int y12), (.int y13), (.int y14), (.int y15)] (.int (0 : Int32)) := U125_4
  have Z125 : n0 ≤ T125.heap.size := Nat.le_trans Z112 Kq125.1
  have K125 : Keep h0 T125.heap [a1, b1, b2] := K112.trans Kq125 (allS (Or.inl (List.mem_of_getElem? (i := 0) rfl)) (allS (Or.inl (List.mem_of_getElem? (i := 1) rfl)) (allS (Or.inl (List.mem_of_getElem? (i := 2) rfl)) all0)))
  have N125 := Fr.app N112 Nq125
  refine own_go (A := _) (B := T125.setTop (mkF m 26 #[.val (.ref a1), .val (.ref a2), .val (.int (1 : Int32))] [])) (fun t k => st125.trans k) ?_
  refine own_go (A := T125.setTop (mkF m 26 #[.val (.ref a1), .val (.ref a2), .val (.int (1 : Int32))] [])) (B := T125.setTop (mkF m 4 #[.val (.ref a1), .val (.ref a2), .val (.int (2 : Int32))] [(.ref a2), (.int (2 : Int32))])) (fun t k => ?_) ?_
  · show Steps p.tables e below (T125.setTop (mkF m 26 #[.val (.ref a1), .val (.ref a2), .val (.int (1 : Int32))] [])) _
    refine XS.iinc X125.here hx rfl (hb hby d4_26) rfl (l' := #[.val (.ref a1), .val (.ref a2), .val (.int (2 : Int32))]) rfl ?_
    show Steps p.tables e below (T125.setTop (mkF m 29 #[.val (.ref a1), .val (.ref a2), .val (.int (2 : Int32))] [])) _
    refine XS.goto X125.here hx rfl (pc0 := 29) (pc' := 2) rfl (hb hby d4_29) (by decide) (by decide) ?_
    show Steps p.tables e below (T125.setTop (mkF m 2 #[.val (.ref a1), .val (.ref a2), .val (.int (2 : Int32))] [])) _
    refine XS.iloadN X125.here hx rfl (hb hby d4_2) rfl ?_
    show Steps p.tables e below (T125.setTop (mkF m 3 #[.val (.ref a1), .val (.ref a2), .val (.int (2 : Int32))] [(.int (2 : Int32))])) _
    refine XS.aloadN X125.here hx rfl (hb hby d4_3) rfl rfl ?_
    exact k
  obtain ⟨T132, X132, e132, st132⟩ := getF X125 hx hZ hown (host := "") (Or.inl (hw _ (List.mem_of_getElem? (i := 19) rfl))) Via.refl rfl Q127 (g := (mkF m 4 #[.val (.ref a1), .val (.ref a2), .val (.int (2 : Int32))] [(.ref a2), (.int (2 : Int32))])) rfl rfl (hb hby d4_4)
  refine own_go st132 ?_
  refine own_go (A := T132.setTop (mkF m 7 #[.val (.ref a1), .val (.ref a2), .val (.int (2 : Int32))] [(.int (4 : Int32)), (.int (2 : Int32))])) (B := T132.setTop (mkF m 12 #[.val (.ref a1), .val (.ref a2), .val (.int (2 : Int32))] [(.ref a2), (.ref a1)])) (fun t k => ?_) ?_
  · show Steps p.tables e below (T132.setTop (mkF m 7 #[.val (.ref a1), .val (.ref a2), .val (.int (2 : Int32))] [(.int (4 : Int32)), (.int (2 : Int32))])) _
    refine XS.icmpNo X132.here hx rfl (hb hby d4_7) rfl (tlt (by decide : ((2 : Int32) < (4 : Int32)))).2.1 ?_
    show Steps p.tables e below (T132.setTop (mkF m 10 #[.val (.ref a1), .val (.ref a2), .val (.int (2 : Int32))] [])) _
    refine XS.aloadN X132.here hx rfl (hb hby d4_10) rfl rfl ?_
    show Steps p.tables e below (T132.setTop (mkF m 11 #[.val (.ref a1), .val (.ref a2), .val (.int (2 : Int32))] [(.ref a1)])) _
    refine XS.aloadN X132.here hx rfl (hb hby d4_11) rfl rfl ?_
    exact k
  obtain ⟨T134, X134, e134, st134⟩ := getF X132 hx hZ hown (host := "") (Or.inl (hw _ (List.mem_of_getElem? (i := 10) rfl))) Via.refl e132 Q128 (g := (mkF m 12 #[.val (.ref a1), .val (.ref a2), .val (.int (2 : Int32))] [(.ref a2), (.ref a1)])) rfl rfl (hb hby d4_12)
  refine own_go st134 ?_
  refine own_go (A := T134.setTop (mkF m 15 #[.val (.ref a1), .val (.ref a2), .val (.int (2 : Int32))] [(.ref c1), (.ref a1)])) (B := T134.setTop (mkF m 16 #[.val (.ref a1), .val (.ref a2), .val (.int (2 : Int32))] [(.int (2 : Int32)), (.ref c1), (.ref a1)])) (fun t k => ?_) ?_
  · show Steps p.tables e below (T134.setTop (mkF m 15 #[.val (.ref a1), .val (.ref a2), .val (.int (2 : Int32))] [(.ref c1), (.ref a1)])) _
    refine XS.iloadN X134.here hx rfl (hb hby d4_15) rfl ?_
    exact k
  obtain ⟨cl135, Ar135, q135, S135, M135, Ha135, G135⟩ := id Q130
  have hin135 : ¬ ((2 : Int32) < 0 ∨ cl135.slots.size ≤ ((2 : Int32)).toNatClampNeg) := inb_of S135 ⟨by decide, by decide⟩
  refine own_go (A := T134.setTop (mkF m 16 #[.val (.ref a1), .val (.ref a2), .val (.int (2 : Int32))] [(.int (2 : Int32)), (.ref c1), (.ref a1)])) (X134.iaload hx (j := (2 : Int32)) (v := (.int u2)) (by rw [e134]; exact Ar135.1) (State.isArrayOf_alike hZ.alike Ar135.2.1) Ar135.2.2 hin135 (Has.at Ha135 hin135 rfl) (g := (mkF m 16 #[.val (.ref a1), .val (.ref a2), .val (.int (2 : Int32))] [(.int (2 : Int32)), (.ref c1), (.ref a1)])) rfl rfl (hb hby d4_16)) ?_
  refine own_go (A := T134.setTop (mkF m 17 #[.val (.ref a1), .val (.ref a2), .val (.int (2 : Int32))] [(.int u2), (.ref a1)])) (B := T134.setTop (mkF m 18 #[.val (.ref a1), .val (.ref a2), .val (.int (2 : Int32))] [(.ref a2), (.int u2), (.ref a1)])) (fun t k => ?_) ?_
  · show Steps p.tables e below (T134.setTop (mkF m 17 #[.val (.ref a1), .val (.ref a2), .val (.int (2 : Int32))] [(.int u2), (.ref a1)])) _
    refine XS.aloadN X134.here hx rfl (hb hby d4_17) rfl rfl ?_
    exact k
  obtain ⟨T136, X136, e136, st136⟩ := getF X134 hx hZ hown (host := "") (Or.inl (hw _ (List.mem_of_getElem? (i := 12) rfl))) Via.refl e134 Q129 (g := (mkF m 18 #[.val (.ref a1), .val (.ref a2), .val (.int (2 : Int32))] [(.ref a2), (.int u2), (.ref a1)])) rfl rfl (hb hby d4_18)
  refine own_go st136 ?_
  refine own_go (A := T136.setTop (mkF m 21 #[.val (.ref a1), .val (.ref a2), .val (.int (2 : Int32))] [(.ref c2), (.int u2), (.ref a1)])) (B := T136.setTop (mkF m 22 #[.val (.ref a1), .val (.ref a2), .val (.int (2 : Int32))] [(.int (2 : Int32)), (.ref c2), (.int u2), (.ref a1)])) (fun t k => ?_) ?_
  · show Steps p.tables e below (T136.setTop (mkF m 21 #[.val (.ref a1), .val (.ref a2), .val (.int (2 : Int32))] [(.ref c2), (.int u2), (.ref a1)])) _
    refine XS.iloadN X136.here hx rfl (hb hby d4_21) rfl ?_
    exact k
  obtain ⟨cl137, Ar137, q137, S137, M137, Ha137, G137⟩ := id Q131
  have hin137 : ¬ ((2 : Int32) < 0 ∨ cl137.slots.size ≤ ((2 : Int32)).toNatClampNeg) := inb_of S137 ⟨by decide, by decide⟩
  refine own_go (A := T136.setTop (mkF m 22 #[.val (.ref a1), .val (.ref a2), .val (.int (2 : Int32))] [(.int (2 : Int32)), (.ref c2), (.int u2), (.ref a1)])) (X136.iaload hx (j := (2 : Int32)) (v := (.int v2)) (by rw [e136]; exact Ar137.1) (State.isArrayOf_alike hZ.alike Ar137.2.1) Ar137.2.2 hin137 (Has.at Ha137 hin137 rfl) (g := (mkF m 22 #[.val (.ref a1), .val (.ref a2), .val (.int (2 : Int32))] [(.int (2 : Int32)), (.ref c2), (.int u2), (.ref a1)])) rfl rfl (hb hby d4_22)) ?_
  obtain ⟨cq138, kq138, q138a, q138b, q138c⟩ := isOf hZ e136 Q126
  obtain ⟨_, _, ⟨T138, L138, k138, n138⟩, -, X138, ⟨Lc138, hQ138, l138, y138, z138⟩, st138⟩ := X136.virtualBack hx (y := (⟨"com/example/axiomwright/axiomwright/Arcs", "add", "(II)V"⟩ : MethodName)) (z := (⟨"com/example/axiomwright/axiomwright/Arcs", "add", "(II)V"⟩ : MethodName)) hown (mvT hZ (hw _ (List.mem_of_getElem? (i := 26) rfl))) (mvT hZ (hw _ (List.mem_of_getElem? (i := 15) rfl))) (notFace_of_selects (args := #[]) (mvT hZ (hw _ (List.mem_of_getElem? (i := 17) rfl)))) (mvT hZ (hw _ (List.mem_of_getElem? (i := 17) rfl))) (mvT hZ (hw _ (List.mem_of_getElem? (i := 16) rfl))) (by decide) (backOf (W := 0) (rm3 l Z a0 hw [] a1 u2 v2 (4 : Int32) b1 b2 k1 k2 [(.int x0), (.int x1), (.int u0), (.int u1), (.int x4), (.int x5), (.int x6), (.int x7), (.int x8), (.int x9), (.int x10), (.int x11), (.int x12), (.int x13), (.int x14), (.int x15)] [(.int y0), (.int y1), (.int v0), (.int v1), (.int y4), (.int y5), (.int y6), (.int y7), (.int y8), (.int y9), (.int y10), (.int y11), (.int y12), (.int y13), (.int y14), (.int y15)] T125.heap n0 Z125 Q126 U125_0n U125_1 U125_2 U125_3n U125_4n g_a1 g_b1 g_b2 ne_a1_b1 ne_a1_b2 ne_b1_b2 (by decide) (by decide) (by decide) (Nat.le_of_ble_eq_true rfl) (Nat.le_of_ble_eq_true rfl)) hZ (hw _ (List.mem_of_getElem? (i := 18) rfl)) (hw _ (List.mem_of_getElem? (i := 2) rfl)) (by decide) (by decide)) q138a q138c (g := (mkF m 23 #[.val (.ref a1), .val (.ref a2), .val (.int (2 : Int32))] [(.int v2), (.int u2), (.ref a1)])) rfl (by rw [hml]; rfl) (Steps.refl _) (argsL := [(.int u2), (.int v2)]) (rest := []) (lenOf pd_0 rfl) rfl (by show 2 * 0 + _ ≤ _; exact Nat.le_of_eq rfl) (hb hby d4_23) (fun _ _ => ⟨rfl, e136, (by decide : 0 + 0 ≤ _), (by decide : 0 + 0 ≤ _)⟩)
  dsimp only [Pt.U, Pt.locs, Pt.cells, Pt.slots] at X138 l138 y138 z138 st138 hQ138
  subst l138 y138 z138
  obtain ⟨rfl, Nq138, Kq138, U138_0, U138_1, U138_2, U138_3, U138_4⟩ := hQ138
  have Q139 : Exa Z T138.heap a1 "com/example/axiomwright/axiomwright/Arcs" := Q126.keep Kq138
  have Q140 : Fld Z T138.heap a2 "com/example/axiomwright/axiomwright/Arcs" "size" "I" (.int (4 : Int32)) := Q127.keep Kq138 (ninS ne_a2_a1 (ninS ne_a2_b1 (ninS ne_a2_b2 nin0)))
  have Q141 : Fld Z T138.heap a2 "com/example/axiomwright/axiomwright/Arcs" "from" "[I" (.ref c1) := Q128.keep Kq138 (ninS ne_a2_a1 (ninS ne_a2_b1 (ninS ne_a2_b2 nin0)))
  have Q142 : Fld Z T138.heap a2 "com/example/axiomwright/axiomwright/Arcs" "to" "[I" (.ref c2) := Q129.keep Kq138 (ninS ne_a2_a1 (ninS ne_a2_b1 (ninS ne_a2_b2 nin0)))
  have Q143 : Arv Z T138.heap c1 j1 .int (16 : Int32) [(.int u0), (.int u1), (.int u2), (.int u3), (.int u4), (.int u5), (.int u6), (.int u7), (.int u8), (.int u9), (.int u10), (.int u11), (.int u12), (.int u13), (.int u14), (.int u15)] (.int (0 : Int32)) := Q130.keep Kq138 (ninS ne_c1_a1 (ninS ne_c1_b1 (ninS ne_c1_b2 nin0)))
  have Q144 : Arv Z T138.heap c2 j2 .int (16 : Int32) [(.int v0), (.int v1), (.int v2), (.int v3), (.int v4), (.int v5), (.int v6), (.int v7), (.int v8), (.int v9), (.int v10), (.int v11), (.int v12), (.int v13), (.int v14), (.int v15)] (.int (0 : Int32)) := Q131.keep Kq138 (ninS ne_c2_a1 (ninS ne_c2_b1 (ninS ne_c2_b2 nin0)))
  have U138_0n : Fld Z T138.heap a1 "com/example/axiomwright/axiomwright/Arcs" "size" "I" (.int (5 : Int32)) := U138_0
  have U138_3n : Arv Z T138.heap b1 k1 .int (16 : Int32) [(.int x0), (.int x1), (.int u0), (.int u1), (.int u2), (.int x5), (.int x6), (.int x7), (.int x8), (.int x9), (.int x10), (.int x11), (.int x12), (.int x13), (.int x14), (.int x15)] (.int (0 : Int32)) := U138_3
  have U138_4n : Arv Z T138.heap b2 k2 .int (16 : Int32) [(.int y0), (.int y1), (.int v0), (.int v1), (.int v2), (.int y5), (.int y6), (.int y7), (.int y8), (.int y9), (.int y10), (.int y11), (.int y12), (.int y13), (.int y14), (.int y15)] (.int (0 : Int32)) := U138_4
  have Z138 : n0 ≤ T138.heap.size := Nat.le_trans Z125 Kq138.1
  have K138 : Keep h0 T138.heap [a1, b1, b2] := K125.trans Kq138 (allS (Or.inl (List.mem_of_getElem? (i := 0) rfl)) (allS (Or.inl (List.mem_of_getElem? (i := 1) rfl)) (allS (Or.inl (List.mem_of_getElem? (i := 2) rfl)) all0)))
  have N138 := Fr.app N125 Nq138
  refine own_go (A := _) (B := T138.setTop (mkF m 26 #[.val (.ref a1), .val (.ref a2), .val (.int (2 : Int32))] [])) (fun t k => st138.trans k) ?_
  refine own_go (A := T138.setTop (mkF m 26 #[.val (.ref a1), .val (.ref a2), .val (.int (2 : Int32))] [])) (B := T138.setTop (mkF m 4 #[.val (.ref a1), .val (.ref a2), .val (.int (3 : Int32))] [(.ref a2), (.int (3 : Int32))])) (fun t k => ?_) ?_
  · show Steps p.tables e below (T138.setTop (mkF m 26 #[.val (.ref a1), .val (.ref a2), .val (.int (2 : Int32))] [])) _
    refine XS.iinc X138.here hx rfl (hb hby d4_26) rfl (l' := #[.val (.ref a1), .val (.ref a2), .val (.int (3 : Int32))]) rfl ?_
    show Steps p.tables e below (T138.setTop (mkF m 29 #[.val (.ref a1), .val (.ref a2), .val (.int (3 : Int32))] [])) _
    refine XS.goto X138.here hx rfl (pc0 := 29) (pc' := 2) rfl (hb hby d4_29) (by decide) (by decide) ?_
    show Steps p.tables e below (T138.setTop (mkF m 2 #[.val (.ref a1), .val (.ref a2), .val (.int (3 : Int32))] [])) _
    refine XS.iloadN X138.here hx rfl (hb hby d4_2) rfl ?_
    show Steps p.tables e below (T138.setTop (mkF m 3 #[.val (.ref a1), .val (.ref a2), .val (.int (3 : Int32))] [(.int (3 : Int32))])) _
    refine XS.aloadN X138.here hx rfl (hb hby d4_3) rfl rfl ?_
    exact k
  obtain ⟨T145, X145, e145, st145⟩ := getF X138 hx hZ hown (host := "") (Or.inl (hw _ (List.mem_of_getElem? (i := 19) rfl))) Via.refl rfl Q140 (g := (mkF m 4 #[.val (.ref a1), .val (.ref a2), .val (.int (3 : Int32))] [(.ref a2), (.int (3 : Int32))])) rfl rfl (hb hby d4_4)
  refine own_go st145 ?_
  refine own_go (A := T145.setTop (mkF m 7 #[.val (.ref a1), .val (.ref a2), .val (.int (3 : Int32))] [(.int (4 : Int32)), (.int (3 : Int32))])) (B := T145.setTop (mkF m 12 #[.val (.ref a1), .val (.ref a2), .val (.int (3 : Int32))] [(.ref a2), (.ref a1)])) (fun t k => ?_) ?_
  · show Steps p.tables e below (T145.setTop (mkF m 7 #[.val (.ref a1), .val (.ref a2), .val (.int (3 : Int32))] [(.int (4 : Int32)), (.int (3 : Int32))])) _
    refine XS.icmpNo X145.here hx rfl (hb hby d4_7) rfl (tlt (by decide : ((3 : Int32) < (4 : Int32)))).2.1 ?_
    show Steps p.tables e below (T145.setTop (mkF m 10 #[.val (.ref a1), .val (.ref a2), .val (.int (3 : Int32))] [])) _
    refine XS.aloadN X145.here hx rfl (hb hby d4_10) rfl rfl ?_
    show Steps p.tables e below (T145.setTop (mkF m 11 #[.val (.ref a1), .val (.ref a2), .val (.int (3 : Int32))] [(.ref a1)])) _
    refine XS.aloadN X145.here hx rfl (hb hby d4_11) rfl rfl ?_
    exact k
  obtain ⟨T147, X147, e147, st147⟩ := getF X145 hx hZ hown (host := "") (Or.inl (hw _ (List.mem_of_getElem? (i := 10) rfl))) Via.refl e145 Q141 (g := (mkF m 12 #[.val (.ref a1), .val (.ref a2), .val (.int (3 : Int32))] [(.ref a2), (.ref a1)])) rfl rfl (hb hby d4_12)
  refine own_go st147 ?_
  refine own_go (A := T147.setTop (mkF m 15 #[.val (.ref a1), .val (.ref a2), .val (.int (3 : Int32))] [(.ref c1), (.ref a1)])) (B := T147.setTop (mkF m 16 #[.val (.ref a1), .val (.ref a2), .val (.int (3 : Int32))] [(.int (3 : Int32)), (.ref c1), (.ref a1)])) (fun t k => ?_) ?_
  · show Steps p.tables e below (T147.setTop (mkF m 15 #[.val (.ref a1), .val (.ref a2), .val (.int (3 : Int32))] [(.ref c1), (.ref a1)])) _
    refine XS.iloadN X147.here hx rfl (hb hby d4_15) rfl ?_
    exact k
  obtain ⟨cl148, Ar148, q148, S148, M148, Ha148, G148⟩ := id Q143
  have hin148 : ¬ ((3 : Int32) < 0 ∨ cl148.slots.size ≤ ((3 : Int32)).toNatClampNeg) := inb_of S148 ⟨by decide, by decide⟩
  refine own_go (A := T147.setTop (mkF m 16 #[.val (.ref a1), .val (.ref a2), .val (.int (3 : Int32))] [(.int (3 : Int32)), (.ref c1), (.ref a1)])) (X147.iaload hx (j := (3 : Int32)) (v := (.int u3)) (by rw [e147]; exact Ar148.1) (State.isArrayOf_alike hZ.alike Ar148.2.1) Ar148.2.2 hin148 (Has.at Ha148 hin148 rfl) (g := (mkF m 16 #[.val (.ref a1), .val (.ref a2), .val (.int (3 : Int32))] [(.int (3 : Int32)), (.ref c1), (.ref a1)])) rfl rfl (hb hby d4_16)) ?_
  refine own_go (A := T147.setTop (mkF m 17 #[.val (.ref a1), .val (.ref a2), .val (.int (3 : Int32))] [(.int u3), (.ref a1)])) (B := T147.setTop (mkF m 18 #[.val (.ref a1), .val (.ref a2), .val (.int (3 : Int32))] [(.ref a2), (.int u3), (.ref a1)])) (fun t k => ?_) ?_
  · show Steps p.tables e below (T147.setTop (mkF m 17 #[.val (.ref a1), .val (.ref a2), .val (.int (3 : Int32))] [(.int u3), (.ref a1)])) _
    refine XS.aloadN X147.here hx rfl (hb hby d4_17) rfl rfl ?_
    exact k
  obtain ⟨T149, X149, e149, st149⟩ := getF X147 hx hZ hown (host := "") (Or.inl (hw _ (List.mem_of_getElem? (i := 12) rfl))) Via.refl e147 Q142 (g := (mkF m 18 #[.val (.ref a1), .val (.ref a2), .val (.int (3 : Int32))] [(.ref a2), (.int u3), (.ref a1)])) rfl rfl (hb hby d4_18)
  refine own_go st149 ?_
  refine own_go (A := T149.setTop (mkF m 21 #[.val (.ref a1), .val (.ref a2), .val (.int (3 : Int32))] [(.ref c2), (.int u3), (.ref a1)])) (B := T149.setTop (mkF m 22 #[.val (.ref a1), .val (.ref a2), .val (.int (3 : Int32))] [(.int (3 : Int32)), (.ref c2), (.int u3), (.ref a1)])) (fun t k => ?_) ?_
  · show Steps p.tables e below (T149.setTop (mkF m 21 #[.val (.ref a1), .val (.ref a2), .val (.int (3 : Int32))] [(.ref c2), (.int u3), (.ref a1)])) _
    refine XS.iloadN X149.here hx rfl (hb hby d4_21) rfl ?_
    exact k
  obtain ⟨cl150, Ar150, q150, S150, M150, Ha150, G150⟩ := id Q144
  have hin150 : ¬ ((3 : Int32) < 0 ∨ cl150.slots.size ≤ ((3 : Int32)).toNatClampNeg) := inb_of S150 ⟨by decide, by decide⟩
  refine own_go (A := T149.setTop (mkF m 22 #[.val (.ref a1), .val (.ref a2), .val (.int (3 : Int32))] [(.int (3 : Int32)), (.ref c2), (.int u3), (.ref a1)])) (X149.iaload hx (j := (3 : Int32)) (v := (.int v3)) (by rw [e149]; exact Ar150.1) (State.isArrayOf_alike hZ.alike Ar150.2.1) Ar150.2.2 hin150 (Has.at Ha150 hin150 rfl) (g := (mkF m 22 #[.val (.ref a1), .val (.ref a2), .val (.int (3 : Int32))] [(.int (3 : Int32)), (.ref c2), (.int u3), (.ref a1)])) rfl rfl (hb hby d4_22)) ?_
  obtain ⟨cq151, kq151, q151a, q151b, q151c⟩ := isOf hZ e149 Q139
  obtain ⟨_, _, ⟨T151, L151, k151, n151⟩, -, X151, ⟨Lc151, hQ151, l151, y151, z151⟩, st151⟩ := X149.virtualBack hx (y := (⟨"com/example/axiomwright/axiomwright/Arcs", "add", "(II)V"⟩ : MethodName)) (z := (⟨"com/example/axiomwright/axiomwright/Arcs", "add", "(II)V"⟩ : MethodName)) hown (mvT hZ (hw _ (List.mem_of_getElem? (i := 26) rfl))) (mvT hZ (hw _ (List.mem_of_getElem? (i := 15) rfl))) (notFace_of_selects (args := #[]) (mvT hZ (hw _ (List.mem_of_getElem? (i := 17) rfl)))) (mvT hZ (hw _ (List.mem_of_getElem? (i := 17) rfl))) (mvT hZ (hw _ (List.mem_of_getElem? (i := 16) rfl))) (by decide) (backOf (W := 0) (rm3 l Z a0 hw [] a1 u3 v3 (5 : Int32) b1 b2 k1 k2 [(.int x0), (.int x1), (.int u0), (.int u1), (.int u2), (.int x5), (.int x6), (.int x7), (.int x8), (.int x9), (.int x10), (.int x11), (.int x12), (.int x13), (.int x14), (.int x15)] [(.int y0), (.int y1), (.int v0), (.int v1), (.int v2), (.int y5), (.int y6), (.int y7), (.int y8), (.int y9), (.int y10), (.int y11), (.int y12), (.int y13), (.int y14), (.int y15)] T138.heap n0 Z138 Q139 U138_0n U138_1 U138_2 U138_3n U138_4n g_a1 g_b1 g_b2 ne_a1_b1 ne_a1_b2 ne_b1_b2 (by decide) (by decide) (by decide) (Nat.le_of_ble_eq_true rfl) (Nat.le_of_ble_eq_true rfl)) hZ (hw _ (List.mem_of_getElem? (i := 18) rfl)) (hw _ (List.mem_of_getElem? (i := 2) rfl)) (by decide) (by decide)) q151a q151c (g := (mkF m 23 #[.val (.ref a1), .val (.ref a2), .val (.int (3 : Int32))] [(.int v3), (.int u3), (.ref a1)])) rfl (by rw [hml]; rfl) (Steps.refl _) (argsL := [(.int u3), (.int v3)]) (rest := []) (lenOf pd_0 rfl) rfl (by show 2 * 0 + _ ≤ _; exact Nat.le_of_eq rfl) (hb hby d4_23) (fun _ _ => ⟨rfl, e149, (by decide : 0 + 0 ≤ _), (by decide : 0 + 0 ≤ _)⟩)
  dsimp only [Pt.U, Pt.locs, Pt.cells, Pt.slots] at X151 l151 y151 z151 st151 hQ151
  subst l151 y151 z151
  obtain ⟨rfl, Nq151, Kq151, U151_0, U151_1, U151_2, U151_3, U151_4⟩ := hQ151
  have Q152 : Exa Z T151.heap a1 "com/example/axiomwright/axiomwright/Arcs" := Q139.keep Kq151
  have Q153 : Fld Z T151.heap a2 "com/example/axiomwright/axiomwright/Arcs" "size" "I" (.int (4 : Int32)) := Q140.keep Kq151 (ninS ne_a2_a1 (ninS ne_a2_b1 (ninS ne_a2_b2 nin0)))
  have Q154 : Fld Z T151.heap a2 "com/example/axiomwright/axiomwright/Arcs" "from" "[I" (.ref c1) := Q141.keep Kq151 (ninS ne_a2_a1 (ninS ne_a2_b1 (ninS ne_a2_b2 nin0)))
  have Q155 : Fld Z T151.heap a2 "com/example/axiomwright/axiomwright/Arcs" "to" "[I" (.ref c2) := Q142.keep Kq151 (ninS ne_a2_a1 (ninS ne_a2_b1 (ninS ne_a2_b2 nin0)))
  have Q156 : Arv Z T151.heap c1 j1 .int (16 : Int32) [(.int u0), (.int u1), (.int u2), (.int u3), (.int u4), (.int u5), (.int u6), (.int u7), (.int u8), (.int u9), (.int u10), (.int u11), (.int u12), (.int u13), (.int u14), (.int u15)] (.int (0 : Int32)) := Q143.keep Kq151 (ninS ne_c1_a1 (ninS ne_c1_b1 (ninS ne_c1_b2 nin0)))
  have Q157 : Arv Z T151.heap c2 j2 .int (16 : Int32) [(.int v0), (.int v1), (.int v2), (.int v3), (.int v4), (.int v5), (.int v6), (.int v7), (.int v8), (.int v9), (.int v10), (.int v11), (.int v12), (.int v13), (.int v14), (.int v15)] (.int (0 : Int32)) := Q144.keep Kq151 (ninS ne_c2_a1 (ninS ne_c2_b1 (ninS ne_c2_b2 nin0)))
  have U151_0n : Fld Z T151.heap a1 "com/example/axiomwright/axiomwright/Arcs" "size" "I" (.int (6 : Int32)) := U151_0
  have U151_3n : Arv Z T151.heap b1 k1 .int (16 : Int32) [(.int x0), (.int x1), (.int u0), (.int u1), (.int u2), (.int u3), (.int x6), (.int x7), (.int x8), (.int x9), (.int x10), (.int x11), (.int x12), (.int x13), (.int x14), (.int x15)] (.int (0 : Int32)) := U151_3
  have U151_4n : Arv Z T151.heap b2 k2 .int (16 : Int32) [(.int y0), (.int y1), (.int v0), (.int v1), (.int v2), (.int v3), (.int y6), (.int y7), (.int y8), (.int y9), (.int y10), (.int y11), (.int y12), (.int y13), (.int y14), (.int y15)] (.int (0 : Int32)) := U151_4
  have Z151 : n0 ≤ T151.heap.size := Nat.le_trans Z138 Kq151.1
  have K151 : Keep h0 T151.heap [a1, b1, b2] := K138.trans Kq151 (allS (Or.inl (List.mem_of_getElem? (i := 0) rfl)) (allS (Or.inl (List.mem_of_getElem? (i := 1) rfl)) (allS (Or.inl (List.mem_of_getElem? (i := 2) rfl)) all0)))
  have N151 := Fr.app N138 Nq151
  refine own_go (A := _) (B := T151.setTop (mkF m 26 #[.val (.ref a1), .val (.ref a2), .val (.int (3 : Int32))] [])) (fun t k => st151.trans k) ?_
  refine own_go (A := T151.setTop (mkF m 26 #[.val (.ref a1), .val (.ref a2), .val (.int (3 : Int32))] [])) (B := T151.setTop (mkF m 4 #[.val (.ref a1), .val (.ref a2), .val (.int (4 : Int32))] [(.ref a2), (.int (4 : Int32))])) (fun t k => ?_) ?_
  · show Steps p.tables e below (T151.setTop (mkF m 26 #[.val (.ref a1), .val (.ref a2), .val (.int (3 : Int32))] [])) _
    refine XS.iinc X151.here hx rfl (hb hby d4_26) rfl (l' := #[.val (.ref a1), .val (.ref a2), .val (.int (4 : Int32))]) rfl ?_
    show Steps p.tables e below (T151.setTop (mkF m 29 #[.val (.ref a1), .val (.ref a2), .val (.int (4 : Int32))] [])) _
    refine XS.goto X151.here hx rfl (pc0 := 29) (pc' := 2) rfl (hb hby d4_29) (by decide) (by decide) ?_
    show Steps p.tables e below (T151.setTop (mkF m 2 #[.val (.ref a1), .val (.ref a2), .val (.int (4 : Int32))] [])) _
    refine XS.iloadN X151.here hx rfl (hb hby d4_2) rfl ?_
    show Steps p.tables e below (T151.setTop (mkF m 3 #[.val (.ref a1), .val (.ref a2), .val (.int (4 : Int32))] [(.int (4 : Int32))])) _
    refine XS.aloadN X151.here hx rfl (hb hby d4_3) rfl rfl ?_
    exact k
  obtain ⟨T158, X158, e158, st158⟩ := getF X151 hx hZ hown (host := "") (Or.inl (hw _ (List.mem_of_getElem? (i := 19) rfl))) Via.refl rfl Q153 (g := (mkF m 4 #[.val (.ref a1), .val (.ref a2), .val (.int (4 : Int32))] [(.ref a2), (.int (4 : Int32))])) rfl rfl (hb hby d4_4)
  refine own_go st158 ?_
  refine own_go (A := T158.setTop (mkF m 7 #[.val (.ref a1), .val (.ref a2), .val (.int (4 : Int32))] [(.int (4 : Int32)), (.int (4 : Int32))])) (B := T158.setTop (mkF m 32 #[.val (.ref a1), .val (.ref a2), .val (.int (4 : Int32))] [])) (fun t k => ?_) ?_
  · show Steps p.tables e below (T158.setTop (mkF m 7 #[.val (.ref a1), .val (.ref a2), .val (.int (4 : Int32))] [(.int (4 : Int32)), (.int (4 : Int32))])) _
    refine XS.icmpYes X158.here hx rfl (pc0 := 7) (pc' := 32) rfl (hb hby d4_7) rfl (flt Int32.lt_irrefl).2.1 (by decide) (by decide) ?_
    exact k
  obtain ⟨fs, hr, hrun, hended, hW, hsame⟩ := X158.leave (v := none) (fun _ => rfl)
  refine ⟨_, _, ?_, hrun, hended, _, _, rfl, ?_, ⟨_, rfl⟩, hW, hsame.mono (by decide) (by decide)⟩
  · show Steps p.tables e below (T158.setTop (mkF m 32 #[.val (.ref a1), .val (.ref a2), .val (.int (4 : Int32))] [])) _
    exact X158.returnOut hx Bd.returns (hb hby d4_32) hr
  · show Qrm4_2_4 Z a1 a2 b1 b2 c1 c2 k1 k2 j1 j2 x0 x1 x2 x3 x4 x5 x6 x7 x8 x9 x10 x11 x12 x13 x14 x15 y0 y1 y2 y3 y4 y5 y6 y7 y8 y9 y10 y11 y12 y13 y14 y15 u0 u1 u2 u3 u4 u5 u6 u7 u8 u9 u10 u11 u12 u13 u14 u15 v0 v1 v2 v3 v4 v5 v6 v7 v8 v9 v10 v11 v12 v13 v14 v15 h0 n0 _ T158.heap _
    rw [e158]
    exact ⟨rfl, N151, K151, U151_0n, U151_1, U151_2, U151_3n, U151_4n⟩
def Qrm4_4_6 (Z : State) (a1 : Addr) (a2 : Addr) (b1 : Addr) (b2 : Addr) (c1 : Addr) (c2 : Addr) (k1 : ClassId) (k2 : ClassId) (j1 : ClassId) (j2 : ClassId) (x0 : Int32) (x1 : Int32) (x2 : Int32) (x3 : Int32) (x4 : Int32) (x5 : Int32) (x6 : Int32) (x7 : Int32) (x8 : Int32) (x9 : Int32) (x10 : Int32) (x11 : Int32) (x12 : Int32) (x13 : Int32) (x14 : Int32) (x15 : Int32) (y0 : Int32) (y1 : Int32) (y2 : Int32) (y3 : Int32) (y4 : Int32) (y5 : Int32) (y6 : Int32) (y7 : Int32) (y8 : Int32) (y9 : Int32) (y10 : Int32) (y11 : Int32) (y12 : Int32) (y13 : Int32) (y14 : Int32) (y15 : Int32) (u0 : Int32) (u1 : Int32) (u2 : Int32) (u3 : Int32) (u4 : Int32) (u5 : Int32) (u6 : Int32) (u7 : Int32) (u8 : Int32) (u9 : Int32) (u10 : Int32) (u11 : Int32) (u12 : Int32) (u13 : Int32) (u14 : Int32) (u15 : Int32) (v0 : Int32) (v1 : Int32) (v2 : Int32) (v3 : Int32) (v4 : Int32) (v5 : Int32) (v6 : Int32) (v7 : Int32) (v8 : Int32) (v9 : Int32) (v10 : Int32) (v11 : Int32) (v12 : Int32) (v13 : Int32) (v14 : Int32) (v15 : Int32) (h0 : Heap) (n0 : Nat) (v : Option Value) (h : Heap) (L : List Loc) : Prop := v = none ∧ Fr n0 L ∧ Keep h0 h [a1, b1, b2] ∧ Fld Z h a1 "com/example/axiomwright/axiomwright/Arcs" "size" "I" (.int (10 : Int32)) ∧ Fld Z h a1 "com/example/axiomwright/axiomwright/Arcs" "from" "[I" (.ref b1) ∧ Fld Z h a1 "com/example/axiomwright/axiomwright/Arcs" "to" "[I" (.ref b2) ∧ Arv Z h b1 k1 .int (16 : Int32) [(.int x0), (.int x1), (.int x2), (.int x3), (.int u0), (.int u1), (.int u2), (.int u3), (.int u4), (.int u5), (.int x10), (.int x11), (.int x12), (.int x13), (.int x14), (.int x15)] (.int (0 : Int32)) ∧ Arv Z h b2 k2 .int (16 : Int32) [(.int y0), (.int y1), (.int y2), (.int y3), (.int v0), (.int v1), (.int v2), (.int v3), (.int v4), (.int v5), (.int y10), (.int y11), (.int y12), (.int y13), (.int y14), (.int y15)] (.int (0 : Int32))
theorem efrm4_4_6 (m : MethodId) (x0 : Addr) (x1 : Addr) : entryFrame m #[(.ref x0), (.ref x1)] 3 = mkF m 0 #[.val (.ref x0), .val (.ref x1), .unset] [] := by first | (simp [entryFrame, mkF, argsToLocals, Value.category]; done) | rfl
set_option maxRecDepth 65536 in
set_option maxHeartbeats 40000000 in
theorem rm4_4_6 (l : Launch) (Z : State) (a0 : Array Value) (hw : ∀ d ∈ tables_1, d.before a0 Z = true) (ws : List Jvm.Cond) (a1 : Addr) (a2 : Addr) (b1 : Addr) (b2 : Addr) (c1 : Addr) (c2 : Addr) (k1 : ClassId) (k2 : ClassId) (j1 : ClassId) (j2 : ClassId) (x0 : Int32) (x1 : Int32) (x2 : Int32) (x3 : Int32) (x4 : Int32) (x5 : Int32) (x6 : Int32) (x7 : Int32) (x8 : Int32) (x9 : Int32) (x10 : Int32) (x11 : Int32) (x12 : Int32) (x13 : Int32) (x14 : Int32) (x15 : Int32) (y0 : Int32) (y1 : Int32) (y2 : Int32) (y3 : Int32) (y4 : Int32) (y5 : Int32) (y6 : Int32) (y7 : Int32) (y8 : Int32) (y9 : Int32) (y10 : Int32) (y11 : Int32) (y12 : Int32) (y13 : Int32) (y14 : Int32) (y15 : Int32) (u0 : Int32) (u1 : Int32) (u2 : Int32) (u3 : Int32) (u4 : Int32) (u5 : Int32) (u6 : Int32) (u7 : Int32) (u8 : Int32) (u9 : Int32) (u10 : Int32) (u11 : Int32) (u12 : Int32) (u13 : Int32) (u14 : Int32) (u15 : Int32) (v0 : Int32) (v1 : Int32) (v2 : Int32) (v3 : Int32) (v4 : Int32) (v5 : Int32) (v6 : Int32) (v7 : Int32) (v8 : Int32) (v9 : Int32) (v10 : Int32) (v11 : Int32) (v12 : Int32) (v13 : Int32) (v14 : Int32) (v15 : Int32) (h0 : Heap) (n0 : Nat) (Z0 : n0 ≤ h0.size) (P0 : Exa Z h0 a1 "com/example/axiomwright/axiomwright/Arcs") (P1 : Fld Z h0 a1 "com/example/axiomwright/axiomwright/Arcs" "size" "I" (.int (4 : Int32))) (P2 : Fld Z h0 a1 "com/example/axiomwright/axiomwright/Arcs" "from" "[I" (.ref b1)) (P3 : Fld Z h0 a1 "com/example/axiomwright/axiomwright/Arcs" "to" "[I" (.ref b2)) (P4 : Arv Z h0 b1 k1 .int (16 : Int32) [(.int x0), (.int x1), (.int x2), (.int x3), (.int x4), (.int x5), (.int x6), (.int x7), (.int x8), (.int x9), (.int x10), (.int x11), (.int x12), (.int x13), (.int x14), (.int x15)] (.int (0 : Int32))) (P5 : Arv Z h0 b2 k2 .int (16 : Int32) [(.int y0), (.int y1), (.int y2), (.int y3), (.int y4), (.int y5), (.int y6), (.int y7), (.int y8), (.int y9), (.int y10), (.int y11), (.int y12), (.int y13), (.int y14), (.int y15)] (.int (0 : Int32))) (P6 : Fld Z h0 a2 "com/example/axiomwright/axiomwright/Arcs" "size" "I" (.int (6 : Int32))) (P7 : Fld Z h0 a2 "com/example/axiomwright/axiomwright/Arcs" "from" "[I" (.ref c1)) (P8 : Fld Z h0 a2 "com/example/axiomwright/axiomwright/Arcs" "to" "[I" (.ref c2)) (P9 : Arv Z h0 c1 j1 .int (16 : Int32) [(.int u0), (.int u1), (.int u2), (.int u3), (.int u4), (.int u5), (.int u6), (.int u7), (.int u8), (.int u9), (.int u10), (.int u11), (.int u12), (.int u13), (.int u14), (.int u15)] (.int (0 : Int32))) (P10 : Arv Z h0 c2 j2 .int (16 : Int32) [(.int v0), (.int v1), (.int v2), (.int v3), (.int v4), (.int v5), (.int v6), (.int v7), (.int v8), (.int v9), (.int v10), (.int v11), (.int v12), (.int v13), (.int v14), (.int v15)] (.int (0 : Int32))) (g_a1 : n0 ≤ a1) (g_b1 : n0 ≤ b1) (g_b2 : n0 ≤ b2) (ne_a1_b1 : a1 ≠ b1) (ne_a1_b2 : a1 ≠ b2) (ne_b1_b2 : b1 ≠ b2) (ne_a2_a1 : a2 ≠ a1) (ne_a2_b1 : a2 ≠ b1) (ne_a2_b2 : a2 ≠ b2) (ne_c1_a1 : c1 ≠ a1) (ne_c1_b1 : c1 ≠ b1) (ne_c1_b2 : c1 ≠ b2) (ne_c2_a1 : c2 ≠ a1) (ne_c2_b1 : c2 ≠ b1) (ne_c2_b2 : c2 ≠ b2) :
    MetFree l (⟨"com/example/axiomwright/axiomwright/Arcs", "addAll", "(Lcom/example/axiomwright/axiomwright/Arcs;)V"⟩ : MethodName) (head1 (Jvm.Cond.code (⟨"com/example/axiomwright/axiomwright/Arcs", "addAll", "(Lcom/example/axiomwright/axiomwright/Arcs;)V"⟩ : MethodName) prog_2_method_4_code 3 none :: ws) ({ frames := 1, cells := 0, slots := 0, locals := 14 } : Room)) (fun a U => a = #[(.ref a1), (.ref a2)] ∧ Z.Warmed39 U.vm ∧ U.heap = h0) (fun _ _ _ _ _ => True) (fun _ U o U' => ∃ v L, o = .returned v ∧ Qrm4_4_6 Z a1 a2 b1 b2 c1 c2 k1 k2 j1 j2 x0 x1 x2 x3 x4 x5 x6 x7 x8 x9 x10 x11 x12 x13 x14 x15 y0 y1 y2 y3 y4 y5 y6 y7 y8 y9 y10 y11 y12 y13 y14 y15 u0 u1 u2 u3 u4 u5 u6 u7 u8 u9 u10 u11 u12 u13 u14 u15 v0 v1 v2 v3 v4 v5 v6 v7 v8 v9 v10 v11 v12 v13 v14 v15 h0 n0 v U'.heap L ∧ FrameEnd U o U' L ({ frames := 1, cells := 0, slots := 0, locals := 14 } : Room).cells ({ frames := 1, cells := 0, slots := 0, locals := 14 } : Room).slots) := by
  refine MetFree.of_bodySF (plainFor_of_name pn_0) hisR ?_
  intro p e s m args below meth c s₁ Bd hml0 hP hK
  obtain ⟨rfl, hZ, hh⟩ := hP
  have hx := Bd.exec
  have hby := Bd.bytes
  have hml : c.maxLocals = 3 := hml0
  have hown : s.vm.findClass "com/example/axiomwright/axiomwright/Arcs" = some m.cls := findClass_of_methodNamed Bd.named
  have hnm := (name_of_methodNamed Bd.named Bd.method).1
  have X0 : Stand p l e ({ frames := 1, cells := 0, slots := 0, locals := 14 } : Room) s m #[(.ref a1), (.ref a2)] below meth c s₁ [] 0 0 := Stand.of_body Bd
  have e0 : s₁.heap = h0 := by rw [← hh, Bd.state]; rfl
  have N0 := Fr.nil n0
  have K0 : Keep h0 h0 [a1, b1, b2] := Keep.refl h0 _
  refine own_go (B := s₁.setTop (mkF m 0 #[.val (.ref a1), .val (.ref a2), .unset] [])) (fun t k => castTop (efrm4_4_6 m a1 a2) k) ?_
  refine own_go (A := s₁.setTop (mkF m 0 #[.val (.ref a1), .val (.ref a2), .unset] [])) (B := s₁.setTop (mkF m 4 #[.val (.ref a1), .val (.ref a2), .val (.int (0 : Int32))] [(.ref a2), (.int (0 : Int32))])) (fun t k => ?_) ?_
  · show Steps p.tables e below (s₁.setTop (mkF m 0 #[.val (.ref a1), .val (.ref a2), .unset] [])) _
    refine XS.iconst X0.here hx rfl (hb hby d4_0) ?_
    show Steps p.tables e below (s₁.setTop (mkF m 1 #[.val (.ref a1), .val (.ref a2), .unset] [(.int (0 : Int32))])) _
    refine XS.istoreN X0.here hx rfl (hb hby d4_1) rfl (l' := #[.val (.ref a1), .val (.ref a2), .val (.int (0 : Int32))]) rfl ?_
    show Steps p.tables e below (s₁.setTop (mkF m 2 #[.val (.ref a1), .val (.ref a2), .val (.int (0 : Int32))] [])) _
    refine XS.iloadN X0.here hx rfl (hb hby d4_2) rfl ?_
    show Steps p.tables e below (s₁.setTop (mkF m 3 #[.val (.ref a1), .val (.ref a2), .val (.int (0 : Int32))] [(.int (0 : Int32))])) _
    refine XS.aloadN X0.here hx rfl (hb hby d4_3) rfl rfl ?_
    exact k
  obtain ⟨T160, X160, e160, st160⟩ := getF X0 hx hZ hown (host := "") (Or.inl (hw _ (List.mem_of_getElem? (i := 19) rfl))) Via.refl e0 P6 (g := (mkF m 4 #[.val (.ref a1), .val (.ref a2), .val (.int (0 : Int32))] [(.ref a2), (.int (0 : Int32))])) rfl rfl (hb hby d4_4)
  refine own_go st160 ?_
  refine own_go (A := T160.setTop (mkF m 7 #[.val (.ref a1), .val (.ref a2), .val (.int (0 : Int32))] [(.int (6 : Int32)), (.int (0 : Int32))])) (B := T160.setTop (mkF m 12 #[.val (.ref a1), .val (.ref a2), .val (.int (0 : Int32))] [(.ref a2), (.ref a1)])) (fun t k => ?_) ?_
  · show Steps p.tables e below (T160.setTop (mkF m 7 #[.val (.ref a1), .val (.ref a2), .val (.int (0 : Int32))] [(.int (6 : Int32)), (.int (0 : Int32))])) _
    refine XS.icmpNo X160.here hx rfl (hb hby d4_7) rfl (tlt (by decide : ((0 : Int32) < (6 : Int32)))).2.1 ?_
    show Steps p.tables e below (T160.setTop (mkF m 10 #[.val (.ref a1), .val (.ref a2), .val (.int (0 : Int32))] [])) _
    refine XS.aloadN X160.here hx rfl (hb hby d4_10) rfl rfl ?_
    show Steps p.tables e below (T160.setTop (mkF m 11 #[.val (.ref a1), .val (.ref a2), .val (.int (0 : Int32))] [(.ref a1)])) _
    refine XS.aloadN X160.here hx rfl (hb hby d4_11) rfl rfl ?_
    exact k
  obtain ⟨T162, X162, e162, st162⟩ := getF X160 hx hZ hown (host := "") (Or.inl (hw _ (List.mem_of_getElem? (i := 10) rfl))) Via.refl e160 P7 (g := (mkF m 12 #[.val (.ref a1), .val (.ref a2), .val (.int (0 : Int32))] [(.ref a2), (.ref a1)])) rfl rfl (hb hby d4_12)
  refine own_go st162 ?_
  refine own_go (A := T162.setTop (mkF m 15 #[.val (.ref a1), .val (.ref a2), .val (.int (0 : Int32))] [(.ref c1), (.ref a1)])) (B := T162.setTop (mkF m 16 #[.val (.ref a1), .val (.ref a2), .val (.int (0 : Int32))] [(.int (0 : Int32)), (.ref c1), (.ref a1)])) (fun t k => ?_) ?_
  · show Steps p.tables e below (T162.setTop (mkF m 15 #[.val (.ref a1), .val (.ref a2), .val (.int (0 : Int32))] [(.ref c1), (.ref a1)])) _
    refine XS.iloadN X162.here hx rfl (hb hby d4_15) rfl ?_
    exact k
  obtain ⟨cl163, Ar163, q163, S163, M163, Ha163, G163⟩ := id P9
  have hin163 : ¬ ((0 : Int32) < 0 ∨ cl163.slots.size ≤ ((0 : Int32)).toNatClampNeg) := inb_of S163 ⟨by decide, by decide⟩
  refine own_go (A := T162.setTop (mkF m 16 #[.val (.ref a1), .val (.ref a2), .val (.int (0 : Int32))] [(.int (0 : Int32)), (.ref c1), (.ref a1)])) (X162.iaload hx (j := (0 : Int32)) (v := (.int u0)) (by rw [e162]; exact Ar163.1) (State.isArrayOf_alike hZ.alike Ar163.2.1) Ar163.2.2 hin163 (Has.at Ha163 hin163 rfl) (g := (mkF m 16 #[.val (.ref a1), .val (.ref a2), .val (.int (0 : Int32))] [(.int (0 : Int32)), (.ref c1), (.ref a1)])) rfl rfl (hb hby d4_16)) ?_
  refine own_go (A := T162.setTop (mkF m 17 #[.val (.ref a1), .val (.ref a2), .val (.int (0 : Int32))] [(.int u0), (.ref a1)])) (B := T162.setTop (mkF m 18 #[.val (.ref a1), .val (.ref a2), .val (.int (0 : Int32))] [(.ref a2), (.int u0), (.ref a1)])) (fun t k => ?_) ?_
  · show Steps p.tables e below (T162.setTop (mkF m 17 #[.val (.ref a1), .val (.ref a2), .val (.int (0 : Int32))] [(.int u0), (.ref a1)])) _
    refine XS.aloadN X162.here hx rfl (hb hby d4_17) rfl rfl ?_
    exact k
  obtain ⟨T164, X164, e164, st164⟩ := getF X162 hx hZ hown (host := "") (Or.inl (hw _ (List.mem_of_getElem? (i := 12) rfl))) Via.refl e162 P8 (g := (mkF m 18 #[.val (.ref a1), .val (.ref a2), .val (.int (0 : Int32))] [(.ref a2), (.int u0), (.ref a1)])) rfl rfl (hb hby d4_18)
  refine own_go st164 ?_
  refine own_go (A := T164.setTop (mkF m 21 #[.val (.ref a1), .val (.ref a2), .val (.int (0 : Int32))] [(.ref c2), (.int u0), (.ref a1)])) (B := T164.setTop (mkF m 22 #[.val (.ref a1), .val (.ref a2), .val (.int (0 : Int32))] [(.int (0 : Int32)), (.ref c2), (.int u0), (.ref a1)])) (fun t k => ?_) ?_
  · show Steps p.tables e below (T164.setTop (mkF m 21 #[.val (.ref a1), .val (.ref a2), .val (.int (0 : Int32))] [(.ref c2), (.int u0), (.ref a1)])) _
    refine XS.iloadN X164.here hx rfl (hb hby d4_21) rfl ?_
    exact k
  obtain ⟨cl165, Ar165, q165, S165, M165, Ha165, G165⟩ := id P10
  have hin165 : ¬ ((0 : Int32) < 0 ∨ cl165.slots.size ≤ ((0 : Int32)).toNatClampNeg) := inb_of S165 ⟨by decide, by decide⟩
  refine own_go (A := T164.setTop (mkF m 22 #[.val (.ref a1), .val (.ref a2), .val (.int (0 : Int32))] [(.int (0 : Int32)), (.ref c2), (.int u0), (.ref a1)])) (X164.iaload hx (j := (0 : Int32)) (v := (.int v0)) (by rw [e164]; exact Ar165.1) (State.isArrayOf_alike hZ.alike Ar165.2.1) Ar165.2.2 hin165 (Has.at Ha165 hin165 rfl) (g := (mkF m 22 #[.val (.ref a1), .val (.ref a2), .val (.int (0 : Int32))] [(.int (0 : Int32)), (.ref c2), (.int u0), (.ref a1)])) rfl rfl (hb hby d4_22)) ?_
  obtain ⟨cq166, kq166, q166a, q166b, q166c⟩ := isOf hZ e164 P0
  obtain ⟨_, _, ⟨T166, L166, k166, n166⟩, -, X166, ⟨Lc166, hQ166, l166, y166, z166⟩, st166⟩ := X164.virtualBack hx (y := (⟨"com/example/axiomwright/axiomwright/Arcs", "add", "(II)V"⟩ : MethodName)) (z := (⟨"com/example/axiomwright/axiomwright/Arcs", "add", "(II)V"⟩ : MethodName)) hown (mvT hZ (hw _ (List.mem_of_getElem? (i := 26) rfl))) (mvT hZ (hw _ (List.mem_of_getElem? (i := 15) rfl))) (notFace_of_selects (args := #[]) (mvT hZ (hw _ (List.mem_of_getElem? (i := 17) rfl)))) (mvT hZ (hw _ (List.mem_of_getElem? (i := 17) rfl))) (mvT hZ (hw _ (List.mem_of_getElem? (i := 16) rfl))) (by decide) (backOf (W := 0) (rm3 l Z a0 hw [] a1 u0 v0 (4 : Int32) b1 b2 k1 k2 [(.int x0), (.int x1), (.int x2), (.int x3), (.int x4), (.int x5), (.int x6), (.int x7), (.int x8), (.int x9), (.int x10), (.int x11), (.int x12), (.int x13), (.int x14), (.int x15)] [(.int y0), (.int y1), (.int y2), (.int y3), (.int y4), (.int y5), (.int y6), (.int y7), (.int y8), (.int y9), (.int y10), (.int y11), (.int y12), (.int y13), (.int y14), (.int y15)] h0 n0 Z0 P0 P1 P2 P3 P4 P5 g_a1 g_b1 g_b2 ne_a1_b1 ne_a1_b2 ne_b1_b2 (by decide) (by decide) (by decide) (Nat.le_of_ble_eq_true rfl) (Nat.le_of_ble_eq_true rfl)) hZ (hw _ (List.mem_of_getElem? (i := 18) rfl)) (hw _ (List.mem_of_getElem? (i := 2) rfl)) (by decide) (by decide)) q166a q166c (g := (mkF m 23 #[.val (.ref a1), .val (.ref a2), .val (.int (0 : Int32))] [(.int v0), (.int u0), (.ref a1)])) rfl (by rw [hml]; rfl) (Steps.refl _) (argsL := [(.int u0), (.int v0)]) (rest := []) (lenOf pd_0 rfl) rfl (by show 2 * 0 + _ ≤ _; exact Nat.le_of_eq rfl) (hb hby d4_23) (fun _ _ => ⟨rfl, e164, (by decide : 0 + 0 ≤ _), (by decide : 0 + 0 ≤ _)⟩)
  dsimp only [Pt.U, Pt.locs, Pt.cells, Pt.slots] at X166 l166 y166 z166 st166 hQ166
  subst l166 y166 z166
  obtain ⟨rfl, Nq166, Kq166, U166_0, U166_1, U166_2, U166_3, U166_4⟩ := hQ166
  have Q167 : Exa Z T166.heap a1 "com/example/axiomwright/axiomwright/Arcs" := P0.keep Kq166
  have Q168 : Fld Z T166.heap a2 "com/example/axiomwright/axiomwright/Arcs" "size" "I" (.int (6 : Int32)) := P6.keep Kq166 (ninS ne_a2_a1 (ninS ne_a2_b1 (ninS ne_a2_b2 nin0)))
  have Q169 : Fld Z T166.heap a2 "com/example/axiomwright/axiomwright/Arcs" "from" "[I" (.ref c1) := P7.keep Kq166 (ninS ne_a2_a1 (ninS ne_a2_b1 (ninS ne_a2_b2 nin0)))
  have Q170 : Fld Z T166.heap a2 "com/example/axiomwright/axiomwright/Arcs" "to" "[I" (.ref c2) := P8.keep Kq166 (ninS ne_a2_a1 (ninS ne_a2_b1 (ninS ne_a2_b2 nin0)))
  have Q171 : Arv Z T166.heap c1 j1 .int (16 : Int32) [(.int u0), (.int u1), (.int u2), (.int u3), (.int u4), (.int u5), (.int u6), (.int u7), (.int u8), (.int u9), (.int u10), (.int u11), (.int u12), (.int u13), (.int u14), (.int u15)] (.int (0 : Int32)) := P9.keep Kq166 (ninS ne_c1_a1 (ninS ne_c1_b1 (ninS ne_c1_b2 nin0)))
  have Q172 : Arv Z T166.heap c2 j2 .int (16 : Int32) [(.int v0), (.int v1), (.int v2), (.int v3), (.int v4), (.int v5), (.int v6), (.int v7), (.int v8), (.int v9), (.int v10), (.int v11), (.int v12), (.int v13), (.int v14), (.int v15)] (.int (0 : Int32)) := P10.keep Kq166 (ninS ne_c2_a1 (ninS ne_c2_b1 (ninS ne_c2_b2 nin0)))
  have U166_0n : Fld Z T166.heap a1 "com/example/axiomwright/axiomwright/Arcs" "size" "I" (.int (5 : Int32)) := U166_0
  have U166_3n : Arv Z T166.heap b1 k1 .int (16 : Int32) [(.int x0), (.int x1), (.int x2), (.int x3), (.int u0), (.int x5), (.int x6), (.int x7), (.int x8), (.int x9), (.int x10), (.int x11), (.int x12), (.int x13), (.int x14), (.int x15)] (.int (0 : Int32)) := U166_3
  have U166_4n : Arv Z T166.heap b2 k2 .int (16 : Int32) [(.int y0), (.int y1), (.int y2), (.int y3), (.int v0), (.int y5), (.int y6), (.int y7), (.int y8), (.int y9), (.int y10), (.int y11), (.int y12), (.int y13), (.int y14), (.int y15)] (.int (0 : Int32)) := U166_4
  have Z166 : n0 ≤ T166.heap.size := Nat.le_trans Z0 Kq166.1
  have K166 : Keep h0 T166.heap [a1, b1, b2] := K0.trans Kq166 (allS (Or.inl (List.mem_of_getElem? (i := 0) rfl)) (allS (Or.inl (List.mem_of_getElem? (i := 1) rfl)) (allS (Or.inl (List.mem_of_getElem? (i := 2) rfl)) all0)))
  have N166 := Fr.app N0 Nq166
  refine own_go (A := _) (B := T166.setTop (mkF m 26 #[.val (.ref a1), .val (.ref a2), .val (.int (0 : Int32))] [])) (fun t k => st166.trans k) ?_
  refine own_go (A := T166.setTop (mkF m 26 #[.val (.ref a1), .val (.ref a2), .val (.int (0 : Int32))] [])) (B := T166.setTop (mkF m 4 #[.val (.ref a1), .val (.ref a2), .val (.int (1 : Int32))] [(.ref a2), (.int (1 : Int32))])) (fun t k => ?_) ?_
  · show Steps p.tables e below (T166.setTop (mkF m 26 #[.val (.ref a1), .val (.ref a2), .val (.int (0 : Int32))] [])) _
    refine XS.iinc X166.here hx rfl (hb hby d4_26) rfl (l' := #[.val (.ref a1), .val (.ref a2), .val (.int (1 : Int32))]) rfl ?_
    show Steps p.tables e below (T166.setTop (mkF m 29 #[.val (.ref a1), .val (.ref a2), .val (.int (1 : Int32))] [])) _
    refine XS.goto X166.here hx rfl (pc0 := 29) (pc' := 2) rfl (hb hby d4_29) (by decide) (by decide) ?_
    show Steps p.tables e below (T166.setTop (mkF m 2 #[.val (.ref a1), .val (.ref a2), .val (.int (1 : Int32))] [])) _
    refine XS.iloadN X166.here hx rfl (hb hby d4_2) rfl ?_
    show Steps p.tables e below (T166.setTop (mkF m 3 #[.val (.ref a1), .val (.ref a2), .val (.int (1 : Int32))] [(.int (1 : Int32))])) _
    refine XS.aloadN X166.here hx rfl (hb hby d4_3) rfl rfl ?_
    exact k
  obtain ⟨T173, X173, e173, st173⟩ := getF X166 hx hZ hown (host := "") (Or.inl (hw _ (List.mem_of_getElem? (i := 19) rfl))) Via.refl rfl Q168 (g := (mkF m 4 #[.val (.ref a1), .val (.ref a2), .val (.int (1 : Int32))] [(.ref a2), (.int (1 : Int32))])) rfl rfl (hb hby d4_4)
  refine own_go st173 ?_
  refine own_go (A := T173.setTop (mkF m 7 #[.val (.ref a1), .val (.ref a2), .val (.int (1 : Int32))] [(.int (6 : Int32)), (.int (1 : Int32))])) (B := T173.setTop (mkF m 12 #[.val (.ref a1), .val (.ref a2), .val (.int (1 : Int32))] [(.ref a2), (.ref a1)])) (fun t k => ?_) ?_
  · show Steps p.tables e below (T173.setTop (mkF m 7 #[.val (.ref a1), .val (.ref a2), .val (.int (1 : Int32))] [(.int (6 : Int32)), (.int (1 : Int32))])) _
    refine XS.icmpNo X173.here hx rfl (hb hby d4_7) rfl (tlt (by decide : ((1 : Int32) < (6 : Int32)))).2.1 ?_
    show Steps p.tables e below (T173.setTop (mkF m 10 #[.val (.ref a1), .val (.ref a2), .val (.int (1 : Int32))] [])) _
    refine XS.aloadN X173.here hx rfl (hb hby d4_10) rfl rfl ?_
    show Steps p.tables e below (T173.setTop (mkF m 11 #[.val (.ref a1), .val (.ref a2), .val (.int (1 : Int32))] [(.ref a1)])) _
    refine XS.aloadN X173.here hx rfl (hb hby d4_11) rfl rfl ?_
    exact k
  obtain ⟨T175, X175, e175, st175⟩ := getF X173 hx hZ hown (host := "") (Or.inl (hw _ (List.mem_of_getElem? (i := 10) rfl))) Via.refl e173 Q169 (g := (mkF m 12 #[.val (.ref a1), .val (.ref a2), .val (.int (1 : Int32))] [(.ref a2), (.ref a1)])) rfl rfl (hb hby d4_12)
  refine own_go st175 ?_
  refine own_go (A := T175.setTop (mkF m 15 #[.val (.ref a1), .val (.ref a2), .val (.int (1 : Int32))] [(.ref c1), (.ref a1)])) (B := T175.setTop (mkF m 16 #[.val (.ref a1), .val (.ref a2), .val (.int (1 : Int32))] [(.int (1 : Int32)), (.ref c1), (.ref a1)])) (fun t k => ?_) ?_
  · show Steps p.tables e below (T175.setTop (mkF m 15 #[.val (.ref a1), .val (.ref a2), .val (.int (1 : Int32))] [(.ref c1), (.ref a1)])) _
    refine XS.iloadN X175.here hx rfl (hb hby d4_15) rfl ?_
    exact k
  obtain ⟨cl176, Ar176, q176, S176, M176, Ha176, G176⟩ := id Q171
  have hin176 : ¬ ((1 : Int32) < 0 ∨ cl176.slots.size ≤ ((1 : Int32)).toNatClampNeg) := inb_of S176 ⟨by decide, by decide⟩
  refine own_go (A := T175.setTop (mkF m 16 #[.val (.ref a1), .val (.ref a2), .val (.int (1 : Int32))] [(.int (1 : Int32)), (.ref c1), (.ref a1)])) (X175.iaload hx (j := (1 : Int32)) (v := (.int u1)) (by rw [e175]; exact Ar176.1) (State.isArrayOf_alike hZ.alike Ar176.2.1) Ar176.2.2 hin176 (Has.at Ha176 hin176 rfl) (g := (mkF m 16 #[.val (.ref a1), .val (.ref a2), .val (.int (1 : Int32))] [(.int (1 : Int32)), (.ref c1), (.ref a1)])) rfl rfl (hb hby d4_16)) ?_
  refine own_go (A := T175.setTop (mkF m 17 #[.val (.ref a1), .val (.ref a2), .val (.int (1 : Int32))] [(.int u1), (.ref a1)])) (B := T175.setTop (mkF m 18 #[.val (.ref a1), .val (.ref a2), .val (.int (1 : Int32))] [(.ref a2), (.int u1), (.ref a1)])) (fun t k => ?_) ?_
  · show Steps p.tables e below (T175.setTop (mkF m 17 #[.val (.ref a1), .val (.ref a2), .val (.int (1 : Int32))] [(.int u1), (.ref a1)])) _
    refine XS.aloadN X175.here hx rfl (hb hby d4_17) rfl rfl ?_
    exact k
  obtain ⟨T177, X177, e177, st177⟩ := getF X175 hx hZ hown (host := "") (Or.inl (hw _ (List.mem_of_getElem? (i := 12) rfl))) Via.refl e175 Q170 (g := (mkF m 18 #[.val (.ref a1), .val (.ref a2), .val (.int (1 : Int32))] [(.ref a2), (.int u1), (.ref a1)])) rfl rfl (hb hby d4_18)
  refine own_go st177 ?_
  refine own_go (A := T177.setTop (mkF m 21 #[.val (.ref a1), .val (.ref a2), .val (.int (1 : Int32))] [(.ref c2), (.int u1), (.ref a1)])) (B := T177.setTop (mkF m 22 #[.val (.ref a1), .val (.ref a2), .val (.int (1 : Int32))] [(.int (1 : Int32)), (.ref c2), (.int u1), (.ref a1)])) (fun t k => ?_) ?_
  · show Steps p.tables e below (T177.setTop (mkF m 21 #[.val (.ref a1), .val (.ref a2), .val (.int (1 : Int32))] [(.ref c2), (.int u1), (.ref a1)])) _
    refine XS.iloadN X177.here hx rfl (hb hby d4_21) rfl ?_
    exact k
  obtain ⟨cl178, Ar178, q178, S178, M178, Ha178, G178⟩ := id Q172
  have hin178 : ¬ ((1 : Int32) < 0 ∨ cl178.slots.size ≤ ((1 : Int32)).toNatClampNeg) := inb_of S178 ⟨by decide, by decide⟩
  refine own_go (A := T177.setTop (mkF m 22 #[.val (.ref a1), .val (.ref a2), .val (.int (1 : Int32))] [(.int (1 : Int32)), (.ref c2), (.int u1), (.ref a1)])) (X177.iaload hx (j := (1 : Int32)) (v := (.int v1)) (by rw [e177]; exact Ar178.1) (State.isArrayOf_alike hZ.alike Ar178.2.1) Ar178.2.2 hin178 (Has.at Ha178 hin178 rfl) (g := (mkF m 22 #[.val (.ref a1), .val (.ref a2), .val (.int (1 : Int32))] [(.int (1 : Int32)), (.ref c2), (.int u1), (.ref a1)])) rfl rfl (hb hby d4_22)) ?_
  obtain ⟨cq179, kq179, q179a, q179b, q179c⟩ := isOf hZ e177 Q167
  obtain ⟨_, _, ⟨T179, L179, k179, n179⟩, -, X179, ⟨Lc179, hQ179, l179, y179, z179⟩, st179⟩ := X177.virtualBack hx (y := (⟨"com/example/axiomwright/axiomwright/Arcs", "add", "(II)V"⟩ : MethodName)) (z := (⟨"com/example/axiomwright/axiomwright/Arcs", "add", "(II)V"⟩ : MethodName)) hown (mvT hZ (hw _ (List.mem_of_getElem? (i := 26) rfl))) (mvT hZ (hw _ (List.mem_of_getElem? (i := 15) rfl))) (notFace_of_selects (args := #[]) (mvT hZ (hw _ (List.mem_of_getElem? (i := 17) rfl)))) (mvT hZ (hw _ (List.mem_of_getElem? (i := 17) rfl))) (mvT hZ (hw _ (List.mem_of_getElem? (i := 16) rfl))) (by decide) (backOf (W := 0) (rm3 l Z a0 hw [] a1 u1 v1 (5 : Int32) b1 b2 k1 k2 [(.int x0), (.int x1), (.int x2), (.int x3), (.int u0), (.int x5), (.int x6), (.int x7), (.int x8), (.int x9), (.int x10), (.int x11), (.int x12), (.int x13), (.int x14), (.int x15)] [(.int y0), (.int y1), (.int y2), (.int y3), (.int v0), (.int y5), (.int y6), (.int y7), (.int y8), (.int y9), (.int y10), (.int y11), (.int y12), (.int y13), (.int y14), (.int y15)] T166.heap n0 Z166 Q167 U166_0n U166_1 U166_2 U166_3n U166_4n g_a1 g_b1 g_b2 ne_a1_b1 ne_a1_b2 ne_b1_b2 (by decide) (by decide) (by decide) (Nat.le_of_ble_eq_true rfl) (Nat.le_of_ble_eq_true rfl)) hZ (hw _ (List.mem_of_getElem? (i := 18) rfl)) (hw _ (List.mem_of_getElem? (i := 2) rfl)) (by decide) (by decide)) q179a q179c (g := (mkF m 23 #[.val (.ref a1), .val (.ref a2), .val (.int (1 : Int32))] [(.int v1), (.int u1), (.ref a1)])) rfl (by rw [hml]; rfl) (Steps.refl _) (argsL := [(.int u1), (.int v1)]) (rest := []) (lenOf pd_0 rfl) rfl (by show 2 * 0 + _ ≤ _; exact Nat.le_of_eq rfl) (hb hby d4_23) (fun _ _ => ⟨rfl, e177, (by decide : 0 + 0 ≤ _), (by decide : 0 + 0 ≤ _)⟩)
  dsimp only [Pt.U, Pt.locs, Pt.cells, Pt.slots] at X179 l179 y179 z179 st179 hQ179
  subst l179 y179 z179
  obtain ⟨rfl, Nq179, Kq179, U179_0, U179_1, U179_2, U179_3, U179_4⟩ := hQ179
  have Q180 : Exa Z T179.heap a1 "com/example/axiomwright/axiomwright/Arcs" := Q167.keep Kq179
  have Q181 : Fld Z T179.heap a2 "com/example/axiomwright/axiomwright/Arcs" "size" "I" (.int (6 : Int32)) := Q168.keep Kq179 (ninS ne_a2_a1 (ninS ne_a2_b1 (ninS ne_a2_b2 nin0)))
  have Q182 : Fld Z T179.heap a2 "com/example/axiomwright/axiomwright/Arcs" "from" "[I" (.ref c1) := Q169.keep Kq179 (ninS ne_a2_a1 (ninS ne_a2_b1 (ninS ne_a2_b2 nin0)))
  have Q183 : Fld Z T179.heap a2 "com/example/axiomwright/axiomwright/Arcs" "to" "[I" (.ref c2) := Q170.keep Kq179 (ninS ne_a2_a1 (ninS ne_a2_b1 (ninS ne_a2_b2 nin0)))
  have Q184 : Arv Z T179.heap c1 j1 .int (16 : Int32) [(.int u0), (.int u1), (.int u2), (.int u3), (.int u4), (.int u5), (.int u6), (.int u7), (.int u8), (.int u9), (.int u10), (.int u11), (.int u12), (.int u13), (.int u14), (.int u15)] (.int (0 : Int32)) := Q171.keep Kq179 (ninS ne_c1_a1 (ninS ne_c1_b1 (ninS ne_c1_b2 nin0)))
  have Q185 : Arv Z T179.heap c2 j2 .int (16 : Int32) [(.int v0), (.int v1), (.int v2), (.int v3), (.int v4), (.int v5), (.int v6), (.int v7), (.int v8), (.int v9), (.int v10), (.int v11), (.int v12), (.int v13), (.int v14), (.int v15)] (.int (0 : Int32)) := Q172.keep Kq179 (ninS ne_c2_a1 (ninS ne_c2_b1 (ninS ne_c2_b2 nin0)))
  have U179_0n : Fld Z T179.heap a1 "com/example/axiomwright/axiomwright/Arcs" "size" "I" (.int (6 : Int32)) := U179_0
  have U179_3n : Arv Z T179.heap b1 k1 .int (16 : Int32) [(.int x0), (.int x1), (.int x2), (.int x3), (.int u0), (.int u1), (.int x6), (.int x7), (.int x8), (.int x9), (.int x10), (.int x11), (.int x12), (.int x13), (.int x14), (.int x15)] (.int (0 : Int32)) := U179_3
  have U179_4n : Arv Z T179.heap b2 k2 .int (16 : Int32) [(.int y0), (.int y1), (.int y2), (.int y3), (.int v0), (.int v1), (.int y6), (.int y7), (.int y8), (.int y9), (.int y10), (.int y11), (.int y12), (.int y13), (.int y14), (.int y15)] (.int (0 : Int32)) := U179_4
  have Z179 : n0 ≤ T179.heap.size := Nat.le_trans Z166 Kq179.1
  have K179 : Keep h0 T179.heap [a1, b1, b2] := K166.trans Kq179 (allS (Or.inl (List.mem_of_getElem? (i := 0) rfl)) (allS (Or.inl (List.mem_of_getElem? (i := 1) rfl)) (allS (Or.inl (List.mem_of_getElem? (i := 2) rfl)) all0)))
  have N179 := Fr.app N166 Nq179
  refine own_go (A := _) (B := T179.setTop (mkF m 26 #[.val (.ref a1), .val (.ref a2), .val (.int (1 : Int32))] [])) (fun t k => st179.trans k) ?_
  refine own_go (A := T179.setTop (mkF m 26 #[.val (.ref a1), .val (.ref a2), .val (.int (1 : Int32))] [])) (B := T179.setTop (mkF m 4 #[.val (.ref a1), .val (.ref a2), .val (.int (2 : Int32))] [(.ref a2), (.int (2 : Int32))])) (fun t k => ?_) ?_
  · show Steps p.tables e below (T179.setTop (mkF m 26 #[.val (.ref a1), .val (.ref a2), .val (.int (1 : Int32))] [])) _
    refine XS.iinc X179.here hx rfl (hb hby d4_26) rfl (l' := #[.val (.ref a1), .val (.ref a2), .val (.int (2 : Int32))]) rfl ?_
    show Steps p.tables e below (T179.setTop (mkF m 29 #[.val (.ref a1), .val (.ref a2), .val (.int (2 : Int32))] [])) _
    refine XS.goto X179.here hx rfl (pc0 := 29) (pc' := 2) rfl (hb hby d4_29) (by decide) (by decide) ?_
    show Steps p.tables e below (T179.setTop (mkF m 2 #[.val (.ref a1), .val (.ref a2), .val (.int (2 : Int32))] [])) _
    refine XS.iloadN X179.here hx rfl (hb hby d4_2) rfl ?_
    show Steps p.tables e below (T179.setTop (mkF m 3 #[.val (.ref a1), .val (.ref a2), .val (.int (2 : Int32))] [(.int (2 : Int32))])) _
    refine XS.aloadN X179.here hx rfl (hb hby d4_3) rfl rfl ?_
    exact k
  obtain ⟨T186, X186, e186, st186⟩ := getF X179 hx hZ hown (host := "") (Or.inl (hw _ (List.mem_of_getElem? (i := 19) rfl))) Via.refl rfl Q181 (g := (mkF m 4 #[.val (.ref a1), .val (.ref a2), .val (.int (2 : Int32))] [(.ref a2), (.int (2 : Int32))])) rfl rfl (hb hby d4_4)
  refine own_go st186 ?_
  refine own_go (A := T186.setTop (mkF m 7 #[.val (.ref a1), .val (.ref a2), .val (.int (2 : Int32))] [(.int (6 : Int32)), (.int (2 : Int32))])) (B := T186.setTop (mkF m 12 #[.val (.ref a1), .val (.ref a2), .val (.int (2 : Int32))] [(.ref a2), (.ref a1)])) (fun t k => ?_) ?_
  · show Steps p.tables e below (T186.setTop (mkF m 7 #[.val (.ref a1), .val (.ref a2), .val (.int (2 : Int32))] [(.int (6 : Int32)), (.int (2 : Int32))])) _
    refine XS.icmpNo X186.here hx rfl (hb hby d4_7) rfl (tlt (by decide : ((2 : Int32) < (6 : Int32)))).2.1 ?_
    show Steps p.tables e below (T186.setTop (mkF m 10 #[.val (.ref a1), .val (.ref a2), .val (.int (2 : Int32))] [])) _
    refine XS.aloadN X186.here hx rfl (hb hby d4_10) rfl rfl ?_
    show Steps p.tables e below (T186.setTop (mkF m 11 #[.val (.ref a1), .val (.ref a2), .val (.int (2 : Int32))] [(.ref a1)])) _
    refine XS.aloadN X186.here hx rfl (hb hby d4_11) rfl rfl ?_
    exact k
  obtain ⟨T188, X188, e188, st188⟩ := getF X186 hx hZ hown (host := "") (Or.inl (hw _ (List.mem_of_getElem? (i := 10) rfl))) Via.refl e186 Q182 (g := (mkF m 12 #[.val (.ref a1), .val (.ref a2), .val (.int (2 : Int32))] [(.ref a2), (.ref a1)])) rfl rfl (hb hby d4_12)
  refine own_go st188 ?_
  refine own_go (A := T188.setTop (mkF m 15 #[.val (.ref a1), .val (.ref a2), .val (.int (2 : Int32))] [(.ref c1), (.ref a1)])) (B := T188.setTop (mkF m 16 #[.val (.ref a1), .val (.ref a2), .val (.int (2 : Int32))] [(.int (2 : Int32)), (.ref c1), (.ref a1)])) (fun t k => ?_) ?_
  · show Steps p.tables e below (T188.setTop (mkF m 15 #[.val (.ref a1), .val (.ref a2), .val (.int (2 : Int32))] [(.ref c1), (.ref a1)])) _
    refine XS.iloadN X188.here hx rfl (hb hby d4_15) rfl ?_
    exact k
  obtain ⟨cl189, Ar189, q189, S189, M189, Ha189, G189⟩ := id Q184
  have hin189 : ¬ ((2 : Int32) < 0 ∨ cl189.slots.size ≤ ((2 : Int32)).toNatClampNeg) := inb_of S189 ⟨by decide, by decide⟩
  refine own_go (A := T188.setTop (mkF m 16 #[.val (.ref a1), .val (.ref a2), .val (.int (2 : Int32))] [(.int (2 : Int32)), (.ref c1), (.ref a1)])) (X188.iaload hx (j := (2 : Int32)) (v := (.int u2)) (by rw [e188]; exact Ar189.1) (State.isArrayOf_alike hZ.alike Ar189.2.1) Ar189.2.2 hin189 (Has.at Ha189 hin189 rfl) (g := (mkF m 16 #[.val (.ref a1), .val (.ref a2), .val (.int (2 : Int32))] [(.int (2 : Int32)), (.ref c1), (.ref a1)])) rfl rfl (hb hby d4_16)) ?_
  refine own_go (A := T188.setTop (mkF m 17 #[.val (.ref a1), .val (.ref a2), .val (.int (2 : Int32))] [(.int u2), (.ref a1)])) (B := T188.setTop (mkF m 18 #[.val (.ref a1), .val (.ref a2), .val (.int (2 : Int32))] [(.ref a2), (.int u2), (.ref a1)])) (fun t k => ?_) ?_
  · show Steps p.tables e below (T188.setTop (mkF m 17 #[.val (.ref a1), .val (.ref a2), .val (.int (2 : Int32))] [(.int u2), (.ref a1)])) _
    refine XS.aloadN X188.here hx rfl (hb hby d4_17) rfl rfl ?_
    exact k
  obtain ⟨T190, X190, e190, st190⟩ := getF X188 hx hZ hown (host := "") (Or.inl (hw _ (List.mem_of_getElem? (i := 12) rfl))) Via.refl e188 Q183 (g := (mkF m 18 #[.val (.ref a1), .val (.ref a2), .val (.int (2 : Int32))] [(.ref a2), (.int u2), (.ref a1)])) rfl rfl (hb hby d4_18)
  refine own_go st190 ?_
  refine own_go (A := T190.setTop (mkF m 21 #[.val (.ref a1), .val (.ref a2), .val (.int (2 : Int32))] [(.ref c2), (.int u2), (.ref a1)])) (B := T190.setTop (mkF m 22 #[.val (.ref a1), .val (.ref a2), .val (.int (2 : Int32))] [(.int (2 : Int32)), (.ref c2), (.int u2), (.ref a1)])) (fun t k => ?_) ?_
  · show Steps p.tables e below (T190.setTop (mkF m 21 #[.val (.ref a1), .val (.ref a2), .val (.int (2 : Int32))] [(.ref c2), (.int u2), (.ref a1)])) _
    refine XS.iloadN X190.here hx rfl (hb hby d4_21) rfl ?_
    exact k
  obtain ⟨cl191, Ar191, q191, S191, M191, Ha191, G191⟩ := id Q185
  have hin191 : ¬ ((2 : Int32) < 0 ∨ cl191.slots.size ≤ ((2 : Int32)).toNatClampNeg) := inb_of S191 ⟨by decide, by decide⟩
  refine own_go (A := T190.setTop (mkF m 22 #[.val (.ref a1), .val (.ref a2), .val (.int (2 : Int32))] [(.int (2 : Int32)), (.ref c2), (.int u2), (.ref a1)])) (X190.iaload hx (j := (2 : Int32)) (v := (.int v2)) (by rw [e190]; exact Ar191.1) (State.isArrayOf_alike hZ.alike Ar191.2.1) Ar191.2.2 hin191 (Has.at Ha191 hin191 rfl) (g := (mkF m 22 #[.val (.ref a1), .val (.ref a2), .val (.int (2 : Int32))] [(.int (2 : Int32)), (.ref c2), (.int u2), (.ref a1)])) rfl rfl (hb hby d4_22)) ?_
  obtain ⟨cq192, kq192, q192a, q192b, q192c⟩ := isOf hZ e190 Q180
  obtain ⟨_, _, ⟨T192, L192, k192, n192⟩, -, X192, ⟨Lc192, hQ192, l192, y192, z192⟩, st192⟩ := X190.virtualBack hx (y := (⟨"com/example/axiomwright/axiomwright/Arcs", "add", "(II)V"⟩ : MethodName)) (z := (⟨"com/example/axiomwright/axiomwright/Arcs", "add", "(II)V"⟩ : MethodName)) hown (mvT hZ (hw _ (List.mem_of_getElem? (i := 26) rfl))) (mvT hZ (hw _ (List.mem_of_getElem? (i := 15) rfl))) (notFace_of_selects (args := #[]) (mvT hZ (hw _ (List.mem_of_getElem? (i := 17) rfl)))) (mvT hZ (hw _ (List.mem_of_getElem? (i := 17) rfl))) (mvT hZ (hw _ (List.mem_of_getElem? (i := 16) rfl))) (by decide) (backOf (W := 0) (rm3 l Z a0 hw [] a1 u2 v2 (6 : Int32) b1 b2 k1 k2 [(.int x0), (.int x1), (.int x2), (.int x3), (.int u0), (.int u1), (.int x6), (.int x7), (.int x8), (.int x9), (.int x10), (.int x11), (.int x12), (.int x13), (.int x14), (.int x15)] [(.int y0), (.int y1), (.int y2), (.int y3), (.int v0), (.int v1), (.int y6), (.int y7), (.int y8), (.int y9), (.int y10), (.int y11), (.int y12), (.int y13), (.int y14), (.int y15)] T179.heap n0 Z179 Q180 U179_0n U179_1 U179_2 U179_3n U179_4n g_a1 g_b1 g_b2 ne_a1_b1 ne_a1_b2 ne_b1_b2 (by decide) (by decide) (by decide) (Nat.le_of_ble_eq_true rfl) (Nat.le_of_ble_eq_true rfl)) hZ (hw _ (List.mem_of_getElem? (i := 18) rfl)) (hw _ (List.mem_of_getElem? (i := 2) rfl)) (by decide) (by decide)) q192a q192c (g := (mkF m 23 #[.val (.ref a1), .val (.ref a2), .val (.int (2 : Int32))] [(.int v2), (.int u2), (.ref a1)])) rfl (by rw [hml]; rfl) (Steps.refl _) (argsL := [(.int u2), (.int v2)]) (rest := []) (lenOf pd_0 rfl) rfl (by show 2 * 0 + _ ≤ _; exact Nat.le_of_eq rfl) (hb hby d4_23) (fun _ _ => ⟨rfl, e190, (by decide : 0 + 0 ≤ _), (by decide : 0 + 0 ≤ _)⟩)
  dsimp only [Pt.U, Pt.locs, Pt.cells, Pt.slots] at X192 l192 y192 z192 st192 hQ192
  subst l192 y192 z192
  obtain ⟨rfl, Nq192, Kq192, U192_0, U192_1, U192_2, U192_3, U192_4⟩ := hQ192
  have Q193 : Exa Z T192.heap a1 "com/example/axiomwright/axiomwright/Arcs" := Q180.keep Kq192
  have Q194 : Fld Z T192.heap a2 "com/example/axiomwright/axiomwright/Arcs" "size" "I" (.int (6 : Int32)) := Q181.keep Kq192 (ninS ne_a2_a1 (ninS ne_a2_b1 (ninS ne_a2_b2 nin0)))
  have Q195 : Fld Z T192.heap a2 "com/example/axiomwright/axiomwright/Arcs" "from" "[I" (.ref c1) := Q182.keep Kq192 (ninS ne_a2_a1 (ninS ne_a2_b1 (ninS ne_a2_b2 nin0)))
  have Q196 : Fld Z T192.heap a2 "com/example/axiomwright/axiomwright/Arcs" "to" "[I" (.ref c2) := Q183.keep Kq192 (ninS ne_a2_a1 (ninS ne_a2_b1 (ninS ne_a2_b2 nin0)))
  have Q197 : Arv Z T192.heap c1 j1 .int (16 : Int32) [(.int u0), (.int u1), (.int u2), (.int u3), (.int u4), (.int u5), (.int u6), (.int u7), (.int u8), (.int u9), (.int u10), (.int u11), (.int u12), (.int u13), (.int u14), (.int u15)] (.int (0 : Int32)) := Q184.keep Kq192 (ninS ne_c1_a1 (ninS ne_c1_b1 (ninS ne_c1_b2 nin0)))
  have Q198 : Arv Z T192.heap c2 j2 .int (16 : Int32) [(.int v0), (.int v1), (.int v2), (.int v3), (.int v4), (.int v5), (.int v6), (.int v7), (.int v8), (.int v9), (.int v10), (.int v11), (.int v12), (.int v13), (.int v14), (.int v15)] (.int (0 : Int32)) := Q185.keep Kq192 (ninS ne_c2_a1 (ninS ne_c2_b1 (ninS ne_c2_b2 nin0)))
  have U192_0n : Fld Z T192.heap a1 "com/example/axiomwright/axiomwright/Arcs" "size" "I" (.int (7 : Int32)) := U192_0
  have U192_3n : Arv Z T192.heap b1 k1 .int (16 : Int32) [(.int x0), (.int x1), (.int x2), (.int x3), (.int u0), (.int u1), (.int u2), (.int x7), (.int x8), (.int x9), (.int x10), (.int x11), (.int x12), (.int x13), (.int x14), (.int x15)] (.int (0 : Int32)) := U192_3
  have U192_4n : Arv Z T192.heap b2 k2 .int (16 : Int32) [(.int y0), (.int y1), (.int y2), (.int y3), (.int v0), (.int v1), (.int v2), (.int y7), (.int y8), (.int y9), (.int y10), (.int y11), (.int y12), (.int y13), (.int y14), (.int y15)] (.int (0 : Int32)) := U192_4
  have Z192 : n0 ≤ T192.heap.size := Nat.le_trans Z179 Kq192.1
  have K192 : Keep h0 T192.heap [a1, b1, b2] := K179.trans Kq192 (allS (Or.inl (List.mem_of_getElem? (i := 0) rfl)) (allS (Or.inl (List.mem_of_getElem? (i := 1) rfl)) (allS (Or.inl (List.mem_of_getElem? (i := 2) rfl)) all0)))
  have N192 := Fr.app N179 Nq192
  refine own_go (A := _) (B := T192.setTop (mkF m 26 #[.val (.ref a1), .val (.ref a2), .val (.int (2 : Int32))] [])) (fun t k => st192.trans k) ?_
  refine own_go (A := T192.setTop (mkF m 26 #[.val (.ref a1), .val (.ref a2), .val (.int (2 : Int32))] [])) (B := T192.setTop (mkF m 4 #[.val (.ref a1), .val (.ref a2), .val (.int (3 : Int32))] [(.ref a2), (.int (3 : Int32))])) (fun t k => ?_) ?_
  · show Steps p.tables e below (T192.setTop (mkF m 26 #[.val (.ref a1), .val (.ref a2), .val (.int (2 : Int32))] [])) _
    refine XS.iinc X192.here hx rfl (hb hby d4_26) rfl (l' := #[.val (.ref a1), .val (.ref a2), .val (.int (3 : Int32))]) rfl ?_
    show Steps p.tables e below (T192.setTop (mkF m 29 #[.val (.ref a1), .val (.ref a2), .val (.int (3 : Int32))] [])) _
    refine XS.goto X192.here hx rfl (pc0 := 29) (pc' := 2) rfl (hb hby d4_29) (by decide) (by decide) ?_
    show Steps p.tables e below (T192.setTop (mkF m 2 #[.val (.ref a1), .val (.ref a2), .val (.int (3 : Int32))] [])) _
    refine XS.iloadN X192.here hx rfl (hb hby d4_2) rfl ?_
    show Steps p.tables e below (T192.setTop (mkF m 3 #[.val (.ref a1), .val (.ref a2), .val (.int (3 : Int32))] [(.int (3 : Int32))])) _
    refine XS.aloadN X192.here hx rfl (hb hby d4_3) rfl rfl ?_
    exact k
  obtain ⟨T199, X199, e199, st199⟩ := getF X192 hx hZ hown (host := "") (Or.inl (hw _ (List.mem_of_getElem? (i := 19) rfl))) Via.refl rfl Q194 (g := (mkF m 4 #[.val (.ref a1), .val (.ref a2), .val (.int (3 : Int32))] [(.ref a2), (.int (3 : Int32))])) rfl rfl (hb hby d4_4)
  refine own_go st199 ?_
  refine own_go (A := T199.setTop (mkF m 7 #[.val (.ref a1), .val (.ref a2), .val (.int (3 : Int32))] [(.int (6 : Int32)), (.int (3 : Int32))])) (B := T199.setTop (mkF m 12 #[.val (.ref a1), .val (.ref a2), .val (.int (3 : Int32))] [(.ref a2), (.ref a1)])) (fun t k => ?_) ?_
  · show Steps p.tables e below (T199.setTop (mkF m 7 #[.val (.ref a1), .val (.ref a2), .val (.int (3 : Int32))] [(.int (6 : Int32)), (.int (3 : Int32))])) _
    refine XS.icmpNo X199.here hx rfl (hb hby d4_7) rfl (tlt (by decide : ((3 : Int32) < (6 : Int32)))).2.1 ?_
    show Steps p.tables e below (T199.setTop (mkF m 10 #[.val (.ref a1), .val (.ref a2), .val (.int (3 : Int32))] [])) _
    refine XS.aloadN X199.here hx rfl (hb hby d4_10) rfl rfl ?_
    show Steps p.tables e below (T199.setTop (mkF m 11 #[.val (.ref a1), .val (.ref a2), .val (.int (3 : Int32))] [(.ref a1)])) _
    refine XS.aloadN X199.here hx rfl (hb hby d4_11) rfl rfl ?_
    exact k
  obtain ⟨T201, X201, e201, st201⟩ := getF X199 hx hZ hown (host := "") (Or.inl (hw _ (List.mem_of_getElem? (i := 10) rfl))) Via.refl e199 Q195 (g := (mkF m 12 #[.val (.ref a1), .val (.ref a2), .val (.int (3 : Int32))] [(.ref a2), (.ref a1)])) rfl rfl (hb hby d4_12)
  refine own_go st201 ?_
  refine own_go (A := T201.setTop (mkF m 15 #[.val (.ref a1), .val (.ref a2), .val (.int (3 : Int32))] [(.ref c1), (.ref a1)])) (B := T201.setTop (mkF m 16 #[.val (.ref a1), .val (.ref a2), .val (.int (3 : Int32))] [(.int (3 : Int32)), (.ref c1), (.ref a1)])) (fun t k => ?_) ?_
  · show Steps p.tables e below (T201.setTop (mkF m 15 #[.val (.ref a1), .val (.ref a2), .val (.int (3 : Int32))] [(.ref c1), (.ref a1)])) _
    refine XS.iloadN X201.here hx rfl (hb hby d4_15) rfl ?_
    exact k
  obtain ⟨cl202, Ar202, q202, S202, M202, Ha202, G202⟩ := id Q197
  have hin202 : ¬ ((3 : Int32) < 0 ∨ cl202.slots.size ≤ ((3 : Int32)).toNatClampNeg) := inb_of S202 ⟨by decide, by decide⟩
  refine own_go (A := T201.setTop (mkF m 16 #[.val (.ref a1), .val (.ref a2), .val (.int (3 : Int32))] [(.int (3 : Int32)), (.ref c1), (.ref a1)])) (X201.iaload hx (j := (3 : Int32)) (v := (.int u3)) (by rw [e201]; exact Ar202.1) (State.isArrayOf_alike hZ.alike Ar202.2.1) Ar202.2.2 hin202 (Has.at Ha202 hin202 rfl) (g := (mkF m 16 #[.val (.ref a1), .val (.ref a2), .val (.int (3 : Int32))] [(.int (3 : Int32)), (.ref c1), (.ref a1)])) rfl rfl (hb hby d4_16)) ?_
  refine own_go (A := T201.setTop (mkF m 17 #[.val (.ref a1), .val (.ref a2), .val (.int (3 : Int32))] [(.int u3), (.ref a1)])) (B := T201.setTop (mkF m 18 #[.val (.ref a1), .val (.ref a2), .val (.int (3 : Int32))] [(.ref a2), (.int u3), (.ref a1)])) (fun t k => ?_) ?_
  · show Steps p.tables e below (T201.setTop (mkF m 17 #[.val (.ref a1), .val (.ref a2), .val (.int (3 : Int32))] [(.int u3), (.ref a1)])) _
    refine XS.aloadN X201.here hx rfl (hb hby d4_17) rfl rfl ?_
    exact k
  obtain ⟨T203, X203, e203, st203⟩ := getF X201 hx hZ hown (host := "") (Or.inl (hw _ (List.mem_of_getElem? (i := 12) rfl))) Via.refl e201 Q196 (g := (mkF m 18 #[.val (.ref a1), .val (.ref a2), .val (.int (3 : Int32))] [(.ref a2), (.int u3), (.ref a1)])) rfl rfl (hb hby d4_18)
  refine own_go st203 ?_
  refine own_go (A := T203.setTop (mkF m 21 #[.val (.ref a1), .val (.ref a2), .val (.int (3 : Int32))] [(.ref c2), (.int u3), (.ref a1)])) (B := T203.setTop (mkF m 22 #[.val (.ref a1), .val (.ref a2), .val (.int (3 : Int32))] [(.int (3 : Int32)), (.ref c2), (.int u3), (.ref a1)])) (fun t k => ?_) ?_
  · show Steps p.tables e below (T203.setTop (mkF m 21 #[.val (.ref a1), .val (.ref a2), .val (.int (3 : Int32))] [(.ref c2), (.int u3), (.ref a1)])) _
    refine XS.iloadN X203.here hx rfl (hb hby d4_21) rfl ?_
    exact k
  obtain ⟨cl204, Ar204, q204, S204, M204, Ha204, G204⟩ := id Q198
  have hin204 : ¬ ((3 : Int32) < 0 ∨ cl204.slots.size ≤ ((3 : Int32)).toNatClampNeg) := inb_of S204 ⟨by decide, by decide⟩
  refine own_go (A := T203.setTop (mkF m 22 #[.val (.ref a1), .val (.ref a2), .val (.int (3 : Int32))] [(.int (3 : Int32)), (.ref c2), (.int u3), (.ref a1)])) (X203.iaload hx (j := (3 : Int32)) (v := (.int v3)) (by rw [e203]; exact Ar204.1) (State.isArrayOf_alike hZ.alike Ar204.2.1) Ar204.2.2 hin204 (Has.at Ha204 hin204 rfl) (g := (mkF m 22 #[.val (.ref a1), .val (.ref a2), .val (.int (3 : Int32))] [(.int (3 : Int32)), (.ref c2), (.int u3), (.ref a1)])) rfl rfl (hb hby d4_22)) ?_
  obtain ⟨cq205, kq205, q205a, q205b, q205c⟩ := isOf hZ e203 Q193
  obtain ⟨_, _, ⟨T205, L205, k205, n205⟩, -, X205, ⟨Lc205, hQ205, l205, y205, z205⟩, st205⟩ := X203.virtualBack hx (y := (⟨"com/example/axiomwright/axiomwright/Arcs", "add", "(II)V"⟩ : MethodName)) (z := (⟨"com/example/axiomwright/axiomwright/Arcs", "add", "(II)V"⟩ : MethodName)) hown (mvT hZ (hw _ (List.mem_of_getElem? (i := 26) rfl))) (mvT hZ (hw _ (List.mem_of_getElem? (i := 15) rfl))) (notFace_of_selects (args := #[]) (mvT hZ (hw _ (List.mem_of_getElem? (i := 17) rfl)))) (mvT hZ (hw _ (List.mem_of_getElem? (i := 17) rfl))) (mvT hZ (hw _ (List.mem_of_getElem? (i := 16) rfl))) (by decide) (backOf (W := 0) (rm3 l Z a0 hw [] a1 u3 v3 (7 : Int32) b1 b2 k1 k2 [(.int x0), (.int x1), (.int x2), (.int x3), (.int u0), (.int u1), (.int u2), (.int x7), (.int x8), (.int x9), (.int x10), (.int x11), (.int x12), (.int x13), (.int x14), (.int x15)] [(.int y0), (.int y1), (.int y2), (.int y3), (.int v0), (.int v1), (.int v2), (.int y7), (.int y8), (.int y9), (.int y10), (.int y11), (.int y12), (.int y13), (.int y14), (.int y15)] T192.heap n0 Z192 Q193 U192_0n U192_1 U192_2 U192_3n U192_4n g_a1 g_b1 g_b2 ne_a1_b1 ne_a1_b2 ne_b1_b2 (by decide) (by decide) (by decide) (Nat.le_of_ble_eq_true rfl) (Nat.le_of_ble_eq_true rfl)) hZ (hw _ (List.mem_of_getElem? (i := 18) rfl)) (hw _ (List.mem_of_getElem? (i := 2) rfl)) (by decide) (by decide)) q205a q205c (g := (mkF m 23 #[.val (.ref a1), .val (.ref a2), .val (.int (3 : Int32))] [(.int v3), (.int u3), (.ref a1)])) rfl (by rw [hml]; rfl) (Steps.refl _) (argsL := [(.int u3), (.int v3)]) (rest := []) (lenOf pd_0 rfl) rfl (by show 2 * 0 + _ ≤ _; exact Nat.le_of_eq rfl) (hb hby d4_23) (fun _ _ => ⟨rfl, e203, (by decide : 0 + 0 ≤ _), (by decide : 0 + 0 ≤ _)⟩)
  dsimp only [Pt.U, Pt.locs, Pt.cells, Pt.slots] at X205 l205 y205 z205 st205 hQ205
  subst l205 y205 z205
  obtain ⟨rfl, Nq205, Kq205, U205_0, U205_1, U205_2, U205_3, U205_4⟩ := hQ205
  have Q206 : Exa Z T205.heap a1 "com/example/axiomwright/axiomwright/Arcs" := Q193.keep Kq205
  have Q207 : Fld Z T205.heap a2 "com/example/axiomwright/axiomwright/Arcs" "size" "I" (.int (6 : Int32)) := Q194.keep Kq205 (ninS ne_a2_a1 (ninS ne_a2_b1 (ninS ne_a2_b2 nin0)))
  have Q208 : Fld Z T205.heap a2 "com/example/axiomwright/axiomwright/Arcs" "from" "[I" (.ref c1) := Q195.keep Kq205 (ninS ne_a2_a1 (ninS ne_a2_b1 (ninS ne_a2_b2 nin0)))
  have Q209 : Fld Z T205.heap a2 "com/example/axiomwright/axiomwright/Arcs" "to" "[I" (.ref c2) := Q196.keep Kq205 (ninS ne_a2_a1 (ninS ne_a2_b1 (ninS ne_a2_b2 nin0)))
  have Q210 : Arv Z T205.heap c1 j1 .int (16 : Int32) [(.int u0), (.int u1), (.int u2), (.int u3), (.int u4), (.int u5), (.int u6), (.int u7), (.int u8), (.int u9), (.int u10), (.int u11), (.int u12), (.int u13), (.int u14), (.int u15)] (.int (0 : Int32)) := Q197.keep Kq205 (ninS ne_c1_a1 (ninS ne_c1_b1 (ninS ne_c1_b2 nin0)))
  have Q211 : Arv Z T205.heap c2 j2 .int (16 : Int32) [(.int v0), (.int v1), (.int v2), (.int v3), (.int v4), (.int v5), (.int v6), (.int v7), (.int v8), (.int v9), (.int v10), (.int v11), (.int v12), (.int v13), (.int v14), (.int v15)] (.int (0 : Int32)) := Q198.keep Kq205 (ninS ne_c2_a1 (ninS ne_c2_b1 (ninS ne_c2_b2 nin0)))
  have U205_0n : Fld Z T205.heap a1 "com/example/axiomwright/axiomwright/Arcs" "size" "I" (.int (8 : Int32)) := U205_0
  have U205_3n : Arv Z T205.heap b1 k1 .int (16 : Int32) [(.int x0), (.int x1), (.int x2), (.int x3), (.int u0), (.int u1), (.int u2), (.int u3), (.int x8), (.int x9), (.int x10), (.int x11), (.int x12), (.int x13), (.int x14), (.int x15)] (.int (0 : Int32)) := U205_3
  have U205_4n : Arv Z T205.heap b2 k2 .int (16 : Int32) [(.int y0), (.int y1), (.int y2), (.int y3), (.int v0), (.int v1), (.int v2), (.int v3), (.int y8), (.int y9), (.int y10), (.int y11), (.int y12), (.int y13), (.int y14), (.int y15)] (.int (0 : Int32)) := U205_4
  have Z205 : n0 ≤ T205.heap.size := Nat.le_trans Z192 Kq205.1
  have K205 : Keep h0 T205.heap [a1, b1, b2] := K192.trans Kq205 (allS (Or.inl (List.mem_of_getElem? (i := 0) rfl)) (allS (Or.inl (List.mem_of_getElem? (i := 1) rfl)) (allS (Or.inl (List.mem_of_getElem? (i := 2) rfl)) all0)))
  have N205 := Fr.app N192 Nq205
  refine own_go (A := _) (B := T205.setTop (mkF m 26 #[.val (.ref a1), .val (.ref a2), .val (.int (3 : Int32))] [])) (fun t k => st205.trans k) ?_
  refine own_go (A := T205.setTop (mkF m 26 #[.val (.ref a1), .val (.ref a2), .val (.int (3 : Int32))] [])) (B := T205.setTop (mkF m 4 #[.val (.ref a1), .val (.ref a2), .val (.int (4 : Int32))] [(.ref a2), (.int (4 : Int32))])) (fun t k => ?_) ?_
  · show Steps p.tables e below (T205.setTop (mkF m 26 #[.val (.ref a1), .val (.ref a2), .val (.int (3 : Int32))] [])) _
    refine XS.iinc X205.here hx rfl (hb hby d4_26) rfl (l' := #[.val (.ref a1), .val (.ref a2), .val (.int (4 : Int32))]) rfl ?_
    show Steps p.tables e below (T205.setTop (mkF m 29 #[.val (.ref a1), .val (.ref a2), .val (.int (4 : Int32))] [])) _
    refine XS.goto X205.here hx rfl (pc0 := 29) (pc' := 2) rfl (hb hby d4_29) (by decide) (by decide) ?_
    show Steps p.tables e below (T205.setTop (mkF m 2 #[.val (.ref a1), .val (.ref a2), .val (.int (4 : Int32))] [])) _
    refine XS.iloadN X205.here hx rfl (hb hby d4_2) rfl ?_
    show Steps p.tables e below (T205.setTop (mkF m 3 #[.val (.ref a1), .val (.ref a2), .val (.int (4 : Int32))] [(.int (4 : Int32))])) _
    refine XS.aloadN X205.here hx rfl (hb hby d4_3) rfl rfl ?_
    exact k
  obtain ⟨T212, X212, e212, st212⟩ := getF X205 hx hZ hown (host := "") (Or.inl (hw _ (List.mem_of_getElem? (i := 19) rfl))) Via.refl rfl Q207 (g := (mkF m 4 #[.val (.ref a1), .val (.ref a2), .val (.int (4 : Int32))] [(.ref a2), (.int (4 : Int32))])) rfl rfl (hb hby d4_4)
  refine own_go st212 ?_
  refine own_go (A := T212.setTop (mkF m 7 #[.val (.ref a1), .val (.ref a2), .val (.int (4 : Int32))] [(.int (6 : Int32)), (.int (4 : Int32))])) (B := T212.setTop (mkF m 12 #[.val (.ref a1), .val (.ref a2), .val (.int (4 : Int32))] [(.ref a2), (.ref a1)])) (fun t k => ?_) ?_
  · show Steps p.tables e below (T212.setTop (mkF m 7 #[.val (.ref a1), .val (.ref a2), .val (.int (4 : Int32))] [(.int (6 : Int32)), (.int (4 : Int32))])) _
    refine XS.icmpNo X212.here hx rfl (hb hby d4_7) rfl (tlt (by decide : ((4 : Int32) < (6 : Int32)))).2.1 ?_
    show Steps p.tables e below (T212.setTop (mkF m 10 #[.val (.ref a1), .val (.ref a2), .val (.int (4 : Int32))] [])) _
    refine XS.aloadN X212.here hx rfl (hb hby d4_10) rfl rfl ?_
    show Steps p.tables e below (T212.setTop (mkF m 11 #[.val (.ref a1), .val (.ref a2), .val (.int (4 : Int32))] [(.ref a1)])) _
    refine XS.aloadN X212.here hx rfl (hb hby d4_11) rfl rfl ?_
    exact k
  obtain ⟨T214, X214, e214, st214⟩ := getF X212 hx hZ hown (host := "") (Or.inl (hw _ (List.mem_of_getElem? (i := 10) rfl))) Via.refl e212 Q208 (g := (mkF m 12 #[.val (.ref a1), .val (.ref a2), .val (.int (4 : Int32))] [(.ref a2), (.ref a1)])) rfl rfl (hb hby d4_12)
  refine own_go st214 ?_
  refine own_go (A := T214.setTop (mkF m 15 #[.val (.ref a1), .val (.ref a2), .val (.int (4 : Int32))] [(.ref c1), (.ref a1)])) (B := T214.setTop (mkF m 16 #[.val (.ref a1), .val (.ref a2), .val (.int (4 : Int32))] [(.int (4 : Int32)), (.ref c1), (.ref a1)])) (fun t k => ?_) ?_
  · show Steps p.tables e below (T214.setTop (mkF m 15 #[.val (.ref a1), .val (.ref a2), .val (.int (4 : Int32))] [(.ref c1), (.ref a1)])) _
    refine XS.iloadN X214.here hx rfl (hb hby d4_15) rfl ?_
    exact k
  obtain ⟨cl215, Ar215, q215, S215, M215, Ha215, G215⟩ := id Q210
  have hin215 : ¬ ((4 : Int32) < 0 ∨ cl215.slots.size ≤ ((4 : Int32)).toNatClampNeg) := inb_of S215 ⟨by decide, by decide⟩
  refine own_go (A := T214.setTop (mkF m 16 #[.val (.ref a1), .val (.ref a2), .val (.int (4 : Int32))] [(.int (4 : Int32)), (.ref c1), (.ref a1)])) (X214.iaload hx (j := (4 : Int32)) (v := (.int u4)) (by rw [e214]; exact Ar215.1) (State.isArrayOf_alike hZ.alike Ar215.2.1) Ar215.2.2 hin215 (Has.at Ha215 hin215 rfl) (g := (mkF m 16 #[.val (.ref a1), .val (.ref a2), .val (.int (4 : Int32))] [(.int (4 : Int32)), (.ref c1), (.ref a1)])) rfl rfl (hb hby d4_16)) ?_
  refine own_go (A := T214.setTop (mkF m 17 #[.val (.ref a1), .val (.ref a2), .val (.int (4 : Int32))] [(.int u4), (.ref a1)])) (B := T214.setTop (mkF m 18 #[.val (.ref a1), .val (.ref a2), .val (.int (4 : Int32))] [(.ref a2), (.int u4), (.ref a1)])) (fun t k => ?_) ?_
  · show Steps p.tables e below (T214.setTop (mkF m 17 #[.val (.ref a1), .val (.ref a2), .val (.int (4 : Int32))] [(.int u4), (.ref a1)])) _
    refine XS.aloadN X214.here hx rfl (hb hby d4_17) rfl rfl ?_
    exact k
  obtain ⟨T216, X216, e216, st216⟩ := getF X214 hx hZ hown (host := "") (Or.inl (hw _ (List.mem_of_getElem? (i := 12) rfl))) Via.refl e214 Q209 (g := (mkF m 18 #[.val (.ref a1), .val (.ref a2), .val (.int (4 : Int32))] [(.ref a2), (.int u4), (.ref a1)])) rfl rfl (hb hby d4_18)
  refine own_go st216 ?_
  refine own_go (A := T216.setTop (mkF m 21 #[.val (.ref a1), .val (.ref a2), .val (.int (4 : Int32))] [(.ref c2), (.int u4), (.ref a1)])) (B := T216.setTop (mkF m 22 #[.val (.ref a1), .val (.ref a2), .val (.int (4 : Int32))] [(.int (4 : Int32)), (.ref c2), (.int u4), (.ref a1)])) (fun t k => ?_) ?_
  · show Steps p.tables e below (T216.setTop (mkF m 21 #[.val (.ref a1), .val (.ref a2), .val (.int (4 : Int32))] [(.ref c2), (.int u4), (.ref a1)])) _
    refine XS.iloadN X216.here hx rfl (hb hby d4_21) rfl ?_
    exact k
  obtain ⟨cl217, Ar217, q217, S217, M217, Ha217, G217⟩ := id Q211
  have hin217 : ¬ ((4 : Int32) < 0 ∨ cl217.slots.size ≤ ((4 : Int32)).toNatClampNeg) := inb_of S217 ⟨by decide, by decide⟩
  refine own_go (A := T216.setTop (mkF m 22 #[.val (.ref a1), .val (.ref a2), .val (.int (4 : Int32))] [(.int (4 : Int32)), (.ref c2), (.int u4), (.ref a1)])) (X216.iaload hx (j := (4 : Int32)) (v := (.int v4)) (by rw [e216]; exact Ar217.1) (State.isArrayOf_alike hZ.alike Ar217.2.1) Ar217.2.2 hin217 (Has.at Ha217 hin217 rfl) (g := (mkF m 22 #[.val (.ref a1), .val (.ref a2), .val (.int (4 : Int32))] [(.int (4 : Int32)), (.ref c2), (.int u4), (.ref a1)])) rfl rfl (hb hby d4_22)) ?_
  obtain ⟨cq218, kq218, q218a, q218b, q218c⟩ := isOf hZ e216 Q206
  obtain ⟨_, _, ⟨T218, L218, k218, n218⟩, -, X218, ⟨Lc218, hQ218, l218, y218, z218⟩, st218⟩ := X216.virtualBack hx (y := (⟨"com/example/axiomwright/axiomwright/Arcs", "add", "(II)V"⟩ : MethodName)) (z := (⟨"com/example/axiomwright/axiomwright/Arcs", "add", "(II)V"⟩ : MethodName)) hown (mvT hZ (hw _ (List.mem_of_getElem? (i := 26) rfl))) (mvT hZ (hw _ (List.mem_of_getElem? (i := 15) rfl))) (notFace_of_selects (args := #[]) (mvT hZ (hw _ (List.mem_of_getElem? (i := 17) rfl)))) (mvT hZ (hw _ (List.mem_of_getElem? (i := 17) rfl))) (mvT hZ (hw _ (List.mem_of_getElem? (i := 16) rfl))) (by decide) (backOf (W := 0) (rm3 l Z a0 hw [] a1 u4 v4 (8 : Int32) b1 b2 k1 k2 [(.int x0), (.int x1), (.int x2), (.int x3), (.int u0), (.int u1), (.int u2), (.int u3), (.int x8), (.int x9), (.int x10), (.int x11), (.int x12), (.int x13), (.int x14), (.int x15)] [(.int y0), (.int y1), (.int y2), (.int y3), (.int v0), (.int v1), (.int v2), (.int v3), (.int y8), (.int y9), (.int y10), (.int y11), (.int y12), (.int y13), (.int y14), (.int y15)] T205.heap n0 Z205 Q206 U205_0n U205_1 U205_2 U205_3n U205_4n g_a1 g_b1 g_b2 ne_a1_b1 ne_a1_b2 ne_b1_b2 (by decide) (by decide) (by decide) (Nat.le_of_ble_eq_true rfl) (Nat.le_of_ble_eq_true rfl)) hZ (hw _ (List.mem_of_getElem? (i := 18) rfl)) (hw _ (List.mem_of_getElem? (i := 2) rfl)) (by decide) (by decide)) q218a q218c (g := (mkF m 23 #[.val (.ref a1), .val (.ref a2), .val (.int (4 : Int32))] [(.int v4), (.int u4), (.ref a1)])) rfl (by rw [hml]; rfl) (Steps.refl _) (argsL := [(.int u4), (.int v4)]) (rest := []) (lenOf pd_0 rfl) rfl (by show 2 * 0 + _ ≤ _; exact Nat.le_of_eq rfl) (hb hby d4_23) (fun _ _ => ⟨rfl, e216, (by decide : 0 + 0 ≤ _), (by decide : 0 + 0 ≤ _)⟩)
  dsimp only [Pt.U, Pt.locs, Pt.cells, Pt.slots] at X218 l218 y218 z218 st218 hQ218
  subst l218 y218 z218
  obtain ⟨rfl, Nq218, Kq218, U218_0, U218_1, U218_2, U218_3, U218_4⟩ := hQ218
  have Q219 : Exa Z T218.heap a1 "com/example/axiomwright/axiomwright/Arcs" := Q206.keep Kq218
  have Q220 : Fld Z T218.heap a2 "com/example/axiomwright/axiomwright/Arcs" "size" "I" (.int (6 : Int32)) := Q207.keep Kq218 (ninS ne_a2_a1 (ninS ne_a2_b1 (ninS ne_a2_b2 nin0)))
  have Q221 : Fld Z T218.heap a2 "com/example/axiomwright/axiomwright/Arcs" "from" "[I" (.ref c1) := Q208.keep Kq218 (ninS ne_a2_a1 (ninS ne_a2_b1 (ninS ne_a2_b2 nin0)))
  have Q222 : Fld Z T218.heap a2 "com/example/axiomwright/axiomwright/Arcs" "to" "[I" (.ref c2) := Q209.keep Kq218 (ninS ne_a2_a1 (ninS ne_a2_b1 (ninS ne_a2_b2 nin0)))
  have Q223 : Arv Z T218.heap c1 j1 .int (16 : Int32) [(.int u0), (.int u1), (.int u2), (.int u3), (.int u4), (.int u5), (.int u6), (.int u7), (.int u8), (.int u9), (.int u10), (.int u11), (.int u12), (.int u13), (.int u14), (.int u15)] (.int (0 : Int32)) := Q210.keep Kq218 (ninS ne_c1_a1 (ninS ne_c1_b1 (ninS ne_c1_b2 nin0)))
  have Q224 : Arv Z T218.heap c2 j2 .int (16 : Int32) [(.int v0), (.int v1), (.int v2), (.int v3), (.int v4), (.int v5), (.int v6), (.int v7), (.int v8), (.int v9), (.int v10), (.int v11), (.int v12), (.int v13), (.int v14), (.int v15)] (.int (0 : Int32)) := Q211.keep Kq218 (ninS ne_c2_a1 (ninS ne_c2_b1 (ninS ne_c2_b2 nin0)))
  have U218_0n : Fld Z T218.heap a1 "com/example/axiomwright/axiomwright/Arcs" "size" "I" (.int (9 : Int32)) := U218_0
  have U218_3n : Arv Z T218.heap b1 k1 .int (16 : Int32) [(.int x0), (.int x1), (.int x2), (.int x3), (.int u0), (.int u1), (.int u2), (.int u3), (.int u4), (.int x9), (.int x10), (.int x11), (.int x12), (.int x13), (.int x14), (.int x15)] (.int (0 : Int32)) := U218_3
  have U218_4n : Arv Z T218.heap b2 k2 .int (16 : Int32) [(.int y0), (.int y1), (.int y2), (.int y3), (.int v0), (.int v1), (.int v2), (.int v3), (.int v4), (.int y9), (.int y10), (.int y11), (.int y12), (.int y13), (.int y14), (.int y15)] (.int (0 : Int32)) := U218_4
  have Z218 : n0 ≤ T218.heap.size := Nat.le_trans Z205 Kq218.1
  have K218 : Keep h0 T218.heap [a1, b1, b2] := K205.trans Kq218 (allS (Or.inl (List.mem_of_getElem? (i := 0) rfl)) (allS (Or.inl (List.mem_of_getElem? (i := 1) rfl)) (allS (Or.inl (List.mem_of_getElem? (i := 2) rfl)) all0)))
  have N218 := Fr.app N205 Nq218
  refine own_go (A := _) (B := T218.setTop (mkF m 26 #[.val (.ref a1), .val (.ref a2), .val (.int (4 : Int32))] [])) (fun t k => st218.trans k) ?_
  refine own_go (A := T218.setTop (mkF m 26 #[.val (.ref a1), .val (.ref a2), .val (.int (4 : Int32))] [])) (B := T218.setTop (mkF m 4 #[.val (.ref a1), .val (.ref a2), .val (.int (5 : Int32))] [(.ref a2), (.int (5 : Int32))])) (fun t k => ?_) ?_
  · show Steps p.tables e below (T218.setTop (mkF m 26 #[.val (.ref a1), .val (.ref a2), .val (.int (4 : Int32))] [])) _
    refine XS.iinc X218.here hx rfl (hb hby d4_26) rfl (l' := #[.val (.ref a1), .val (.ref a2), .val (.int (5 : Int32))]) rfl ?_
    show Steps p.tables e below (T218.setTop (mkF m 29 #[.val (.ref a1), .val (.ref a2), .val (.int (5 : Int32))] [])) _
    refine XS.goto X218.here hx rfl (pc0 := 29) (pc' := 2) rfl (hb hby d4_29) (by decide) (by decide) ?_
    show Steps p.tables e below (T218.setTop (mkF m 2 #[.val (.ref a1), .val (.ref a2), .val (.int (5 : Int32))] [])) _
    refine XS.iloadN X218.here hx rfl (hb hby d4_2) rfl ?_
    show Steps p.tables e below (T218.setTop (mkF m 3 #[.val (.ref a1), .val (.ref a2), .val (.int (5 : Int32))] [(.int (5 : Int32))])) _
    refine XS.aloadN X218.here hx rfl (hb hby d4_3) rfl rfl ?_
    exact k
  obtain ⟨T225, X225, e225, st225⟩ := getF X218 hx hZ hown (host := "") (Or.inl (hw _ (List.mem_of_getElem? (i := 19) rfl))) Via.refl rfl Q220 (g := (mkF m 4 #[.val (.ref a1), .val (.ref a2), .val (.int (5 : Int32))] [(.ref a2), (.int (5 : Int32))])) rfl rfl (hb hby d4_4)
  refine own_go st225 ?_
  refine own_go (A := T225.setTop (mkF m 7 #[.val (.ref a1), .val (.ref a2), .val (.int (5 : Int32))] [(.int (6 : Int32)), (.int (5 : Int32))])) (B := T225.setTop (mkF m 12 #[.val (.ref a1), .val (.ref a2), .val (.int (5 : Int32))] [(.ref a2), (.ref a1)])) (fun t k => ?_) ?_
  · show Steps p.tables e below (T225.setTop (mkF m 7 #[.val (.ref a1), .val (.ref a2), .val (.int (5 : Int32))] [(.int (6 : Int32)), (.int (5 : Int32))])) _
    refine XS.icmpNo X225.here hx rfl (hb hby d4_7) rfl (tlt (by decide : ((5 : Int32) < (6 : Int32)))).2.1 ?_
    show Steps p.tables e below (T225.setTop (mkF m 10 #[.val (.ref a1), .val (.ref a2), .val (.int (5 : Int32))] [])) _
    refine XS.aloadN X225.here hx rfl (hb hby d4_10) rfl rfl ?_
    show Steps p.tables e below (T225.setTop (mkF m 11 #[.val (.ref a1), .val (.ref a2), .val (.int (5 : Int32))] [(.ref a1)])) _
    refine XS.aloadN X225.here hx rfl (hb hby d4_11) rfl rfl ?_
    exact k
  obtain ⟨T227, X227, e227, st227⟩ := getF X225 hx hZ hown (host := "") (Or.inl (hw _ (List.mem_of_getElem? (i := 10) rfl))) Via.refl e225 Q221 (g := (mkF m 12 #[.val (.ref a1), .val (.ref a2), .val (.int (5 : Int32))] [(.ref a2), (.ref a1)])) rfl rfl (hb hby d4_12)
  refine own_go st227 ?_
  refine own_go (A := T227.setTop (mkF m 15 #[.val (.ref a1), .val (.ref a2), .val (.int (5 : Int32))] [(.ref c1), (.ref a1)])) (B := T227.setTop (mkF m 16 #[.val (.ref a1), .val (.ref a2), .val (.int (5 : Int32))] [(.int (5 : Int32)), (.ref c1), (.ref a1)])) (fun t k => ?_) ?_
  · show Steps p.tables e below (T227.setTop (mkF m 15 #[.val (.ref a1), .val (.ref a2), .val (.int (5 : Int32))] [(.ref c1), (.ref a1)])) _
    refine XS.iloadN X227.here hx rfl (hb hby d4_15) rfl ?_
    exact k
  obtain ⟨cl228, Ar228, q228, S228, M228, Ha228, G228⟩ := id Q223
  have hin228 : ¬ ((5 : Int32) < 0 ∨ cl228.slots.size ≤ ((5 : Int32)).toNatClampNeg) := inb_of S228 ⟨by decide, by decide⟩
  refine own_go (A := T227.setTop (mkF m 16 #[.val (.ref a1), .val (.ref a2), .val (.int (5 : Int32))] [(.int (5 : Int32)), (.ref c1), (.ref a1)])) (X227.iaload hx (j := (5 : Int32)) (v := (.int u5)) (by rw [e227]; exact Ar228.1) (State.isArrayOf_alike hZ.alike Ar228.2.1) Ar228.2.2 hin228 (Has.at Ha228 hin228 rfl) (g := (mkF m 16 #[.val (.ref a1), .val (.ref a2), .val (.int (5 : Int32))] [(.int (5 : Int32)), (.ref c1), (.ref a1)])) rfl rfl (hb hby d4_16)) ?_
  refine own_go (A := T227.setTop (mkF m 17 #[.val (.ref a1), .val (.ref a2), .val (.int (5 : Int32))] [(.int u5), (.ref a1)])) (B := T227.setTop (mkF m 18 #[.val (.ref a1), .val (.ref a2), .val (.int (5 : Int32))] [(.ref a2), (.int u5), (.ref a1)])) (fun t k => ?_) ?_
  · show Steps p.tables e below (T227.setTop (mkF m 17 #[.val (.ref a1), .val (.ref a2), .val (.int (5 : Int32))] [(.int u5), (.ref a1)])) _
    refine XS.aloadN X227.here hx rfl (hb hby d4_17) rfl rfl ?_
    exact k
  obtain ⟨T229, X229, e229, st229⟩ := getF X227 hx hZ hown (host := "") (Or.inl (hw _ (List.mem_of_getElem? (i := 12) rfl))) Via.refl e227 Q222 (g := (mkF m 18 #[.val (.ref a1), .val (.ref a2), .val (.int (5 : Int32))] [(.ref a2), (.int u5), (.ref a1)])) rfl rfl (hb hby d4_18)
  refine own_go st229 ?_
  refine own_go (A := T229.setTop (mkF m 21 #[.val (.ref a1), .val (.ref a2), .val (.int (5 : Int32))] [(.ref c2), (.int u5), (.ref a1)])) (B := T229.setTop (mkF m 22 #[.val (.ref a1), .val (.ref a2), .val (.int (5 : Int32))] [(.int (5 : Int32)), (.ref c2), (.int u5), (.ref a1)])) (fun t k => ?_) ?_
  · show Steps p.tables e below (T229.setTop (mkF m 21 #[.val (.ref a1), .val (.ref a2), .val (.int (5 : Int32))] [(.ref c2), (.int u5), (.ref a1)])) _
    refine XS.iloadN X229.here hx rfl (hb hby d4_21) rfl ?_
    exact k
  obtain ⟨cl230, Ar230, q230, S230, M230, Ha230, G230⟩ := id Q224
  have hin230 : ¬ ((5 : Int32) < 0 ∨ cl230.slots.size ≤ ((5 : Int32)).toNatClampNeg) := inb_of S230 ⟨by decide, by decide⟩
  refine own_go (A := T229.setTop (mkF m 22 #[.val (.ref a1), .val (.ref a2), .val (.int (5 : Int32))] [(.int (5 : Int32)), (.ref c2), (.int u5), (.ref a1)])) (X229.iaload hx (j := (5 : Int32)) (v := (.int v5)) (by rw [e229]; exact Ar230.1) (State.isArrayOf_alike hZ.alike Ar230.2.1) Ar230.2.2 hin230 (Has.at Ha230 hin230 rfl) (g := (mkF m 22 #[.val (.ref a1), .val (.ref a2), .val (.int (5 : Int32))] [(.int (5 : Int32)), (.ref c2), (.int u5), (.ref a1)])) rfl rfl (hb hby d4_22)) ?_
  obtain ⟨cq231, kq231, q231a, q231b, q231c⟩ := isOf hZ e229 Q219
  obtain ⟨_, _, ⟨T231, L231, k231, n231⟩, -, X231, ⟨Lc231, hQ231, l231, y231, z231⟩, st231⟩ := X229.virtualBack hx (y := (⟨"com/example/axiomwright/axiomwright/Arcs", "add", "(II)V"⟩ : MethodName)) (z := (⟨"com/example/axiomwright/axiomwright/Arcs", "add", "(II)V"⟩ : MethodName)) hown (mvT hZ (hw _ (List.mem_of_getElem? (i := 26) rfl))) (mvT hZ (hw _ (List.mem_of_getElem? (i := 15) rfl))) (notFace_of_selects (args := #[]) (mvT hZ (hw _ (List.mem_of_getElem? (i := 17) rfl)))) (mvT hZ (hw _ (List.mem_of_getElem? (i := 17) rfl))) (mvT hZ (hw _ (List.mem_of_getElem? (i := 16) rfl))) (by decide) (backOf (W := 0) (rm3 l Z a0 hw [] a1 u5 v5 (9 : Int32) b1 b2 k1 k2 [(.int x0), (.int x1), (.int x2), (.int x3), (.int u0), (.int u1), (.int u2), (.int u3), (.int u4), (.int x9), (.int x10), (.int x11), (.int x12), (.int x13), (.int x14), (.int x15)] [(.int y0), (.int y1), (.int y2), (.int y3), (.int v0), (.int v1), (.int v2), (.int v3), (.int v4), (.int y9), (.int y10), (.int y11), (.int y12), (.int y13), (.int y14), (.int y15)] T218.heap n0 Z218 Q219 U218_0n U218_1 U218_2 U218_3n U218_4n g_a1 g_b1 g_b2 ne_a1_b1 ne_a1_b2 ne_b1_b2 (by decide) (by decide) (by decide) (Nat.le_of_ble_eq_true rfl) (Nat.le_of_ble_eq_true rfl)) hZ (hw _ (List.mem_of_getElem? (i := 18) rfl)) (hw _ (List.mem_of_getElem? (i := 2) rfl)) (by decide) (by decide)) q231a q231c (g := (mkF m 23 #[.val (.ref a1), .val (.ref a2), .val (.int (5 : Int32))] [(.int v5), (.int u5), (.ref a1)])) rfl (by rw [hml]; rfl) (Steps.refl _) (argsL := [(.int u5), (.int v5)]) (rest := []) (lenOf pd_0 rfl) rfl (by show 2 * 0 + _ ≤ _; exact Nat.le_of_eq rfl) (hb hby d4_23) (fun _ _ => ⟨rfl, e229, (by decide : 0 + 0 ≤ _), (by decide : 0 + 0 ≤ _)⟩)
  dsimp only [Pt.U, Pt.locs, Pt.cells, Pt.slots] at X231 l231 y231 z231 st231 hQ231
  subst l231 y231 z231
  obtain ⟨rfl, Nq231, Kq231, U231_0, U231_1, U231_2, U231_3, U231_4⟩ := hQ231
  have Q232 : Exa Z T231.heap a1 "com/example/axiomwright/axiomwright/Arcs" := Q219.keep Kq231
  have Q233 : Fld Z T231.heap a2 "com/example/axiomwright/axiomwright/Arcs" "size" "I" (.int (6 : Int32)) := Q220.keep Kq231 (ninS ne_a2_a1 (ninS ne_a2_b1 (ninS ne_a2_b2 nin0)))
  have Q234 : Fld Z T231.heap a2 "com/example/axiomwright/axiomwright/Arcs" "from" "[I" (.ref c1) := Q221.keep Kq231 (ninS ne_a2_a1 (ninS ne_a2_b1 (ninS ne_a2_b2 nin0)))
  have Q235 : Fld Z T231.heap a2 "com/example/axiomwright/axiomwright/Arcs" "to" "[I" (.ref c2) := Q222.keep Kq231 (ninS ne_a2_a1 (ninS ne_a2_b1 (ninS ne_a2_b2 nin0)))
  have Q236 : Arv Z T231.heap c1 j1 .int (16 : Int32) [(.int u0), (.int u1), (.int u2), (.int u3), (.int u4), (.int u5), (.int u6), (.int u7), (.int u8), (.int u9), (.int u10), (.int u11), (.int u12), (.int u13), (.int u14), (.int u15)] (.int (0 : Int32)) := Q223.keep Kq231 (ninS ne_c1_a1 (ninS ne_c1_b1 (ninS ne_c1_b2 nin0)))
  have Q237 : Arv Z T231.heap c2 j2 .int (16 : Int32) [(.int v0), (.int v1), (.int v2), (.int v3), (.int v4), (.int v5), (.int v6), (.int v7), (.int v8), (.int v9), (.int v10), (.int v11), (.int v12), (.int v13), (.int v14), (.int v15)] (.int (0 : Int32)) := Q224.keep Kq231 (ninS ne_c2_a1 (ninS ne_c2_b1 (ninS ne_c2_b2 nin0)))
  have U231_0n : Fld Z T231.heap a1 "com/example/axiomwright/axiomwright/Arcs" "size" "I" (.int (10 : Int32)) := U231_0
  have U231_3n : Arv Z T231.heap b1 k1 .int (16 : Int32) [(.int x0), (.int x1), (.int x2), (.int x3), (.int u0), (.int u1), (.int u2), (.int u3), (.int u4), (.int u5), (.int x10), (.int x11), (.int x12), (.int x13), (.int x14), (.int x15)] (.int (0 : Int32)) := U231_3
  have U231_4n : Arv Z T231.heap b2 k2 .int (16 : Int32) [(.int y0), (.int y1), (.int y2), (.int y3), (.int v0), (.int v1), (.int v2), (.int v3), (.int v4), (.int v5), (.int y10), (.int y11), (.int y12), (.int y13), (.int y14), (.int y15)] (.int (0 : Int32)) := U231_4
  have Z231 : n0 ≤ T231.heap.size := Nat.le_trans Z218 Kq231.1
  have K231 : Keep h0 T231.heap [a1, b1, b2] := K218.trans Kq231 (allS (Or.inl (List.mem_of_getElem? (i := 0) rfl)) (allS (Or.inl (List.mem_of_getElem? (i := 1) rfl)) (allS (Or.inl (List.mem_of_getElem? (i := 2) rfl)) all0)))
  have N231 := Fr.app N218 Nq231
  refine own_go (A := _) (B := T231.setTop (mkF m 26 #[.val (.ref a1), .val (.ref a2), .val (.int (5 : Int32))] [])) (fun t k => st231.trans k) ?_
  refine own_go (A := T231.setTop (mkF m 26 #[.val (.ref a1), .val (.ref a2), .val (.int (5 : Int32))] [])) (B := T231.setTop (mkF m 4 #[.val (.ref a1), .val (.ref a2), .val (.int (6 : Int32))] [(.ref a2), (.int (6 : Int32))])) (fun t k => ?_) ?_
  · show Steps p.tables e below (T231.setTop (mkF m 26 #[.val (.ref a1), .val (.ref a2), .val (.int (5 : Int32))] [])) _
    refine XS.iinc X231.here hx rfl (hb hby d4_26) rfl (l' := #[.val (.ref a1), .val (.ref a2), .val (.int (6 : Int32))]) rfl ?_
    show Steps p.tables e below (T231.setTop (mkF m 29 #[.val (.ref a1), .val (.ref a2), .val (.int (6 : Int32))] [])) _
    refine XS.goto X231.here hx rfl (pc0 := 29) (pc' := 2) rfl (hb hby d4_29) (by decide) (by decide) ?_
    show Steps p.tables e below (T231.setTop (mkF m 2 #[.val (.ref a1), .val (.ref a2), .val (.int (6 : Int32))] [])) _
    refine XS.iloadN X231.here hx rfl (hb hby d4_2) rfl ?_
    show Steps p.tables e below (T231.setTop (mkF m 3 #[.val (.ref a1), .val (.ref a2), .val (.int (6 : Int32))] [(.int (6 : Int32))])) _
    refine XS.aloadN X231.here hx rfl (hb hby d4_3) rfl rfl ?_
    exact k
  obtain ⟨T238, X238, e238, st238⟩ := getF X231 hx hZ hown (host := "") (Or.inl (hw _ (List.mem_of_getElem? (i := 19) rfl))) Via.refl rfl Q233 (g := (mkF m 4 #[.val (.ref a1), .val (.ref a2), .val (.int (6 : Int32))] [(.ref a2), (.int (6 : Int32))])) rfl rfl (hb hby d4_4)
  refine own_go st238 ?_
  refine own_go (A := T238.setTop (mkF m 7 #[.val (.ref a1), .val (.ref a2), .val (.int (6 : Int32))] [(.int (6 : Int32)), (.int (6 : Int32))])) (B := T238.setTop (mkF m 32 #[.val (.ref a1), .val (.ref a2), .val (.int (6 : Int32))] [])) (fun t k => ?_) ?_
  · show Steps p.tables e below (T238.setTop (mkF m 7 #[.val (.ref a1), .val (.ref a2), .val (.int (6 : Int32))] [(.int (6 : Int32)), (.int (6 : Int32))])) _
    refine XS.icmpYes X238.here hx rfl (pc0 := 7) (pc' := 32) rfl (hb hby d4_7) rfl (flt Int32.lt_irrefl).2.1 (by decide) (by decide) ?_
    exact k
  obtain ⟨fs, hr, hrun, hended, hW, hsame⟩ := X238.leave (v := none) (fun _ => rfl)
  refine ⟨_, _, ?_, hrun, hended, _, _, rfl, ?_, ⟨_, rfl⟩, hW, hsame.mono (by decide) (by decide)⟩
  · show Steps p.tables e below (T238.setTop (mkF m 32 #[.val (.ref a1), .val (.ref a2), .val (.int (6 : Int32))] [])) _
    exact X238.returnOut hx Bd.returns (hb hby d4_32) hr
  · show Qrm4_4_6 Z a1 a2 b1 b2 c1 c2 k1 k2 j1 j2 x0 x1 x2 x3 x4 x5 x6 x7 x8 x9 x10 x11 x12 x13 x14 x15 y0 y1 y2 y3 y4 y5 y6 y7 y8 y9 y10 y11 y12 y13 y14 y15 u0 u1 u2 u3 u4 u5 u6 u7 u8 u9 u10 u11 u12 u13 u14 u15 v0 v1 v2 v3 v4 v5 v6 v7 v8 v9 v10 v11 v12 v13 v14 v15 h0 n0 _ T238.heap _
    rw [e238]
    exact ⟨rfl, N231, K231, U231_0n, U231_1, U231_2, U231_3n, U231_4n⟩
def Qrm4_6_10 (Z : State) (a1 : Addr) (a2 : Addr) (b1 : Addr) (b2 : Addr) (c1 : Addr) (c2 : Addr) (k1 : ClassId) (k2 : ClassId) (j1 : ClassId) (j2 : ClassId) (x0 : Int32) (x1 : Int32) (x2 : Int32) (x3 : Int32) (x4 : Int32) (x5 : Int32) (x6 : Int32) (x7 : Int32) (x8 : Int32) (x9 : Int32) (x10 : Int32) (x11 : Int32) (x12 : Int32) (x13 : Int32) (x14 : Int32) (x15 : Int32) (y0 : Int32) (y1 : Int32) (y2 : Int32) (y3 : Int32) (y4 : Int32) (y5 : Int32) (y6 : Int32) (y7 : Int32) (y8 : Int32) (y9 : Int32) (y10 : Int32) (y11 : Int32) (y12 : Int32) (y13 : Int32) (y14 : Int32) (y15 : Int32) (u0 : Int32) (u1 : Int32) (u2 : Int32) (u3 : Int32) (u4 : Int32) (u5 : Int32) (u6 : Int32) (u7 : Int32) (u8 : Int32) (u9 : Int32) (u10 : Int32) (u11 : Int32) (u12 : Int32) (u13 : Int32) (u14 : Int32) (u15 : Int32) (v0 : Int32) (v1 : Int32) (v2 : Int32) (v3 : Int32) (v4 : Int32) (v5 : Int32) (v6 : Int32) (v7 : Int32) (v8 : Int32) (v9 : Int32) (v10 : Int32) (v11 : Int32) (v12 : Int32) (v13 : Int32) (v14 : Int32) (v15 : Int32) (h0 : Heap) (n0 : Nat) (v : Option Value) (h : Heap) (L : List Loc) : Prop := v = none ∧ Fr n0 L ∧ Keep h0 h [a1, b1, b2] ∧ Fld Z h a1 "com/example/axiomwright/axiomwright/Arcs" "size" "I" (.int (16 : Int32)) ∧ Fld Z h a1 "com/example/axiomwright/axiomwright/Arcs" "from" "[I" (.ref b1) ∧ Fld Z h a1 "com/example/axiomwright/axiomwright/Arcs" "to" "[I" (.ref b2) ∧ Arv Z h b1 k1 .int (16 : Int32) [(.int x0), (.int x1), (.int x2), (.int x3), (.int x4), (.int x5), (.int u0), (.int u1), (.int u2), (.int u3), (.int u4), (.int u5), (.int u6), (.int u7), (.int u8), (.int u9)] (.int (0 : Int32)) ∧ Arv Z h b2 k2 .int (16 : Int32) [(.int y0), (.int y1), (.int y2), (.int y3), (.int y4), (.int y5), (.int v0), (.int v1), (.int v2), (.int v3), (.int v4), (.int v5), (.int v6), (.int v7), (.int v8), (.int v9)] (.int (0 : Int32))
theorem efrm4_6_10 (m : MethodId) (x0 : Addr) (x1 : Addr) : entryFrame m #[(.ref x0), (.ref x1)] 3 = mkF m 0 #[.val (.ref x0), .val (.ref x1), .unset] [] := by first | (simp [entryFrame, mkF, argsToLocals, Value.category]; done) | rfl
set_option maxRecDepth 65536 in
set_option maxHeartbeats 40000000 in
theorem rm4_6_10 (l : Launch) (Z : State) (a0 : Array Value) (hw : ∀ d ∈ tables_1, d.before a0 Z = true) (ws : List Jvm.Cond) (a1 : Addr) (a2 : Addr) (b1 : Addr) (b2 : Addr) (c1 : Addr) (c2 : Addr) (k1 : ClassId) (k2 : ClassId) (j1 : ClassId) (j2 : ClassId) (x0 : Int32) (x1 : Int32) (x2 : Int32) (x3 : Int32) (x4 : Int32) (x5 : Int32) (x6 : Int32) (x7 : Int32) (x8 : Int32) (x9 : Int32) (x10 : Int32) (x11 : Int32) (x12 : Int32) (x13 : Int32) (x14 : Int32) (x15 : Int32) (y0 : Int32) (y1 : Int32) (y2 : Int32) (y3 : Int32) (y4 : Int32) (y5 : Int32) (y6 : Int32) (y7 : Int32) (y8 : Int32) (y9 : Int32) (y10 : Int32) (y11 : Int32) (y12 : Int32) (y13 : Int32) (y14 : Int32) (y15 : Int32) (u0 : Int32) (u1 : Int32) (u2 : Int32) (u3 : Int32) (u4 : Int32) (u5 : Int32) (u6 : Int32) (u7 : Int32) (u8 : Int32) (u9 : Int32) (u10 : Int32) (u11 : Int32) (u12 : Int32) (u13 : Int32) (u14 : Int32) (u15 : Int32) (v0 : Int32) (v1 : Int32) (v2 : Int32) (v3 : Int32) (v4 : Int32) (v5 : Int32) (v6 : Int32) (v7 : Int32) (v8 : Int32) (v9 : Int32) (v10 : Int32) (v11 : Int32) (v12 : Int32) (v13 : Int32) (v14 : Int32) (v15 : Int32) (h0 : Heap) (n0 : Nat) (Z0 : n0 ≤ h0.size) (P0 : Exa Z h0 a1 "com/example/axiomwright/axiomwright/Arcs") (P1 : Fld Z h0 a1 "com/example/axiomwright/axiomwright/Arcs" "size" "I" (.int (6 : Int32))) (P2 : Fld Z h0 a1 "com/example/axiomwright/axiomwright/Arcs" "from" "[I" (.ref b1)) (P3 : Fld Z h0 a1 "com/example/axiomwright/axiomwright/Arcs" "to" "[I" (.ref b2)) (P4 : Arv Z h0 b1 k1 .int (16 : Int32) [(.int x0), (.int x1), (.int x2), (.int x3), (.int x4), (.int x5), (.int x6), (.int x7), (.int x8), (.int x9), (.int x10), (.int x11), (.int x12), (.int x13), (.int x14), (.int x15)] (.int (0 : Int32))) (P5 : Arv Z h0 b2 k2 .int (16 : Int32) [(.int y0), (.int y1), (.int y2), (.int y3), (.int y4), (.int y5), (.int y6), (.int y7), (.int y8), (.int y9), (.int y10), (.int y11), (.int y12), (.int y13), (.int y14), (.int y15)] (.int (0 : Int32))) (P6 : Fld Z h0 a2 "com/example/axiomwright/axiomwright/Arcs" "size" "I" (.int (10 : Int32))) (P7 : Fld Z h0 a2 "com/example/axiomwright/axiomwright/Arcs" "from" "[I" (.ref c1)) (P8 : Fld Z h0 a2 "com/example/axiomwright/axiomwright/Arcs" "to" "[I" (.ref c2)) (P9 : Arv Z h0 c1 j1 .int (16 : Int32) [(.int u0), (.int u1), (.int u2), (.int u3), (.int u4), (.int u5), (.int u6), (.int u7), (.int u8), (.int u9), (.int u10), (.int u11), (.int u12), (.int u13), (.int u14), (.int u15)] (.int (0 : Int32))) (P10 : Arv Z h0 c2 j2 .int (16 : Int32) [(.int v0), (.int v1), (.int v2), (.int v3), (.int v4), (.int v5), (.int v6), (.int v7), (.int v8), (.int v9), (.int v10), (.int v11), (.int v12), (.int v13), (.int v14), (.int v15)] (.int (0 : Int32))) (g_a1 : n0 ≤ a1) (g_b1 : n0 ≤ b1) (g_b2 : n0 ≤ b2) (ne_a1_b1 : a1 ≠ b1) (ne_a1_b2 : a1 ≠ b2) (ne_b1_b2 : b1 ≠ b2) (ne_a2_a1 : a2 ≠ a1) (ne_a2_b1 : a2 ≠ b1) (ne_a2_b2 : a2 ≠ b2) (ne_c1_a1 : c1 ≠ a1) (ne_c1_b1 : c1 ≠ b1) (ne_c1_b2 : c1 ≠ b2) (ne_c2_a1 : c2 ≠ a1) (ne_c2_b1 : c2 ≠ b1) (ne_c2_b2 : c2 ≠ b2) :
    MetFree l (⟨"com/example/axiomwright/axiomwright/Arcs", "addAll", "(Lcom/example/axiomwright/axiomwright/Arcs;)V"⟩ : MethodName) (head1 (Jvm.Cond.code (⟨"com/example/axiomwright/axiomwright/Arcs", "addAll", "(Lcom/example/axiomwright/axiomwright/Arcs;)V"⟩ : MethodName) prog_2_method_4_code 3 none :: ws) ({ frames := 1, cells := 0, slots := 0, locals := 14 } : Room)) (fun a U => a = #[(.ref a1), (.ref a2)] ∧ Z.Warmed39 U.vm ∧ U.heap = h0) (fun _ _ _ _ _ => True) (fun _ U o U' => ∃ v L, o = .returned v ∧ Qrm4_6_10 Z a1 a2 b1 b2 c1 c2 k1 k2 j1 j2 x0 x1 x2 x3 x4 x5 x6 x7 x8 x9 x10 x11 x12 x13 x14 x15 y0 y1 y2 y3 y4 y5 y6 y7 y8 y9 y10 y11 y12 y13 y14 y15 u0 u1 u2 u3 u4 u5 u6 u7 u8 u9 u10 u11 u12 u13 u14 u15 v0 v1 v2 v3 v4 v5 v6 v7 v8 v9 v10 v11 v12 v13 v14 v15 h0 n0 v U'.heap L ∧ FrameEnd U o U' L ({ frames := 1, cells := 0, slots := 0, locals := 14 } : Room).cells ({ frames := 1, cells := 0, slots := 0, locals := 14 } : Room).slots) := by
  refine MetFree.of_bodySF (plainFor_of_name pn_0) hisR ?_
  intro p e s m args below meth c s₁ Bd hml0 hP hK
  obtain ⟨rfl, hZ, hh⟩ := hP
  have hx := Bd.exec
  have hby := Bd.bytes
  have hml : c.maxLocals = 3 := hml0
  have hown : s.vm.findClass "com/example/axiomwright/axiomwright/Arcs" = some m.cls := findClass_of_methodNamed Bd.named
  have hnm := (name_of_methodNamed Bd.named Bd.method).1
  have X0 : Stand p l e ({ frames := 1, cells := 0, slots := 0, locals := 14 } : Room) s m #[(.ref a1), (.ref a2)] below meth c s₁ [] 0 0 := Stand.of_body Bd
  have e0 : s₁.heap = h0 := by rw [← hh, Bd.state]; rfl
  have N0 := Fr.nil n0
  have K0 : Keep h0 h0 [a1, b1, b2] := Keep.refl h0 _
  refine own_go (B := s₁.setTop (mkF m 0 #[.val (.ref a1), .val (.ref a2), .unset] [])) (fun t k => castTop (efrm4_6_10 m a1 a2) k) ?_
  refine own_go (A := s₁.setTop (mkF m 0 #[.val (.ref a1), .val (.ref a2), .unset] [])) (B := s₁.setTop (mkF m 4 #[.val (.ref a1), .val (.ref a2), .val (.int (0 : Int32))] [(.ref a2), (.int (0 : Int32))])) (fun t k => ?_) ?_
  · show Steps p.tables e below (s₁.setTop (mkF m 0 #[.val (.ref a1), .val (.ref a2), .unset] [])) _
    refine XS.iconst X0.here hx rfl (hb hby d4_0) ?_
    show Steps p.tables e below (s₁.setTop (mkF m 1 #[.val (.ref a1), .val (.ref a2), .unset] [(.int (0 : Int32))])) _
    refine XS.istoreN X0.here hx rfl (hb hby d4_1) rfl (l' := #[.val (.ref a1), .val (.ref a2), .val (.int (0 : Int32))]) rfl ?_
    show Steps p.tables e below (s₁.setTop (mkF m 2 #[.val (.ref a1), .val (.ref a2), .val (.int (0 : Int32))] [])) _
    refine XS.iloadN X0.here hx rfl (hb hby d4_2) rfl ?_
    show Steps p.tables e below (s₁.setTop (mkF m 3 #[.val (.ref a1), .val (.ref a2), .val (.int (0 : Int32))] [(.int (0 : Int32))])) _
    refine XS.aloadN X0.here hx rfl (hb hby d4_3) rfl rfl ?_
    exact k
  obtain ⟨T240, X240, e240, st240⟩ := getF X0 hx hZ hown (host := "") (Or.inl (hw _ (List.mem_of_getElem? (i := 19) rfl))) Via.refl e0 P6 (g := (mkF m 4 #[.val (.ref a1), .val (.ref a2), .val (.int (0 : Int32))] [(.ref a2), (.int (0 : Int32))])) rfl rfl (hb hby d4_4)
  refine own_go st240 ?_
  refine own_go (A := T240.setTop (mkF m 7 #[.val (.ref a1), .val (.ref a2), .val (.int (0 : Int32))] [(.int (10 : Int32)), (.int (0 : Int32))])) (B := T240.setTop (mkF m 12 #[.val (.ref a1), .val (.ref a2), .val (.int (0 : Int32))] [(.ref a2), (.ref a1)])) (fun t k => ?_) ?_
  · show Steps p.tables e below (T240.setTop (mkF m 7 #[.val (.ref a1), .val (.ref a2), .val (.int (0 : Int32))] [(.int (10 : Int32)), (.int (0 : Int32))])) _
    refine XS.icmpNo X240.here hx rfl (hb hby d4_7) rfl (tlt (by decide : ((0 : Int32) < (10 : Int32)))).2.1 ?_
    show Steps p.tables e below (T240.setTop (mkF m 10 #[.val (.ref a1), .val (.ref a2), .val (.int (0 : Int32))] [])) _
    refine XS.aloadN X240.here hx rfl (hb hby d4_10) rfl rfl ?_
    show Steps p.tables e below (T240.setTop (mkF m 11 #[.val (.ref a1), .val (.ref a2), .val (.int (0 : Int32))] [(.ref a1)])) _
    refine XS.aloadN X240.here hx rfl (hb hby d4_11) rfl rfl ?_
    exact k
  obtain ⟨T242, X242, e242, st242⟩ := getF X240 hx hZ hown (host := "") (Or.inl (hw _ (List.mem_of_getElem? (i := 10) rfl))) Via.refl e240 P7 (g := (mkF m 12 #[.val (.ref a1), .val (.ref a2), .val (.int (0 : Int32))] [(.ref a2), (.ref a1)])) rfl rfl (hb hby d4_12)
  refine own_go st242 ?_
  refine own_go (A := T242.setTop (mkF m 15 #[.val (.ref a1), .val (.ref a2), .val (.int (0 : Int32))] [(.ref c1), (.ref a1)])) (B := T242.setTop (mkF m 16 #[.val (.ref a1), .val (.ref a2), .val (.int (0 : Int32))] [(.int (0 : Int32)), (.ref c1), (.ref a1)])) (fun t k => ?_) ?_
  · show Steps p.tables e below (T242.setTop (mkF m 15 #[.val (.ref a1), .val (.ref a2), .val (.int (0 : Int32))] [(.ref c1), (.ref a1)])) _
    refine XS.iloadN X242.here hx rfl (hb hby d4_15) rfl ?_
    exact k
  obtain ⟨cl243, Ar243, q243, S243, M243, Ha243, G243⟩ := id P9
  have hin243 : ¬ ((0 : Int32) < 0 ∨ cl243.slots.size ≤ ((0 : Int32)).toNatClampNeg) := inb_of S243 ⟨by decide, by decide⟩
  refine own_go (A := T242.setTop (mkF m 16 #[.val (.ref a1), .val (.ref a2), .val (.int (0 : Int32))] [(.int (0 : Int32)), (.ref c1), (.ref a1)])) (X242.iaload hx (j := (0 : Int32)) (v := (.int u0)) (by rw [e242]; exact Ar243.1) (State.isArrayOf_alike hZ.alike Ar243.2.1) Ar243.2.2 hin243 (Has.at Ha243 hin243 rfl) (g := (mkF m 16 #[.val (.ref a1), .val (.ref a2), .val (.int (0 : Int32))] [(.int (0 : Int32)), (.ref c1), (.ref a1)])) rfl rfl (hb hby d4_16)) ?_
  refine own_go (A := T242.setTop (mkF m 17 #[.val (.ref a1), .val (.ref a2), .val (.int (0 : Int32))] [(.int u0), (.ref a1)])) (B := T242.setTop (mkF m 18 #[.val (.ref a1), .val (.ref a2), .val (.int (0 : Int32))] [(.ref a2), (.int u0), (.ref a1)])) (fun t k => ?_) ?_
  · show Steps p.tables e below (T242.setTop (mkF m 17 #[.val (.ref a1), .val (.ref a2), .val (.int (0 : Int32))] [(.int u0), (.ref a1)])) _
    refine XS.aloadN X242.here hx rfl (hb hby d4_17) rfl rfl ?_
    exact k
  obtain ⟨T244, X244, e244, st244⟩ := getF X242 hx hZ hown (host := "") (Or.inl (hw _ (List.mem_of_getElem? (i := 12) rfl))) Via.refl e242 P8 (g := (mkF m 18 #[.val (.ref a1), .val (.ref a2), .val (.int (0 : Int32))] [(.ref a2), (.int u0), (.ref a1)])) rfl rfl (hb hby d4_18)
  refine own_go st244 ?_
  refine own_go (A := T244.setTop (mkF m 21 #[.val (.ref a1), .val (.ref a2), .val (.int (0 : Int32))] [(.ref c2), (.int u0), (.ref a1)])) (B := T244.setTop (mkF m 22 #[.val (.ref a1), .val (.ref a2), .val (.int (0 : Int32))] [(.int (0 : Int32)), (.ref c2), (.int u0), (.ref a1)])) (fun t k => ?_) ?_
  · show Steps p.tables e below (T244.setTop (mkF m 21 #[.val (.ref a1), .val (.ref a2), .val (.int (0 : Int32))] [(.ref c2), (.int u0), (.ref a1)])) _
    refine XS.iloadN X244.here hx rfl (hb hby d4_21) rfl ?_
    exact k
  obtain ⟨cl245, Ar245, q245, S245, M245, Ha245, G245⟩ := id P10
  have hin245 : ¬ ((0 : Int32) < 0 ∨ cl245.slots.size ≤ ((0 : Int32)).toNatClampNeg) := inb_of S245 ⟨by decide, by decide⟩
  refine own_go (A := T244.setTop (mkF m 22 #[.val (.ref a1), .val (.ref a2), .val (.int (0 : Int32))] [(.int (0 : Int32)), (.ref c2), (.int u0), (.ref a1)])) (X244.iaload hx (j := (0 : Int32)) (v := (.int v0)) (by rw [e244]; exact Ar245.1) (State.isArrayOf_alike hZ.alike Ar245.2.1) Ar245.2.2 hin245 (Has.at Ha245 hin245 rfl) (g := (mkF m 22 #[.val (.ref a1), .val (.ref a2), .val (.int (0 : Int32))] [(.int (0 : Int32)), (.ref c2), (.int u0), (.ref a1)])) rfl rfl (hb hby d4_22)) ?_
  obtain ⟨cq246, kq246, q246a, q246b, q246c⟩ := isOf hZ e244 P0
  obtain ⟨_, _, ⟨T246, L246, k246, n246⟩, -, X246, ⟨Lc246, hQ246, l246, y246, z246⟩, st246⟩ := X244.virtualBack hx (y := (⟨"com/example/axiomwright/axiomwright/Arcs", "add", "(II)V"⟩ : MethodName)) (z := (⟨"com/example/axiomwright/axiomwright/Arcs", "add", "(II)V"⟩ : MethodName)) hown (mvT hZ (hw _ (List.mem_of_getElem? (i := 26) rfl))) (mvT hZ (hw _ (List.mem_of_getElem? (i := 15) rfl))) (notFace_of_selects (args := #[]) (mvT hZ (hw _ (List.mem_of_getElem? (i := 17) rfl)))) (mvT hZ (hw _ (List.mem_of_getElem? (i := 17) rfl))) (mvT hZ (hw _ (List.mem_of_getElem? (i := 16) rfl))) (by decide) (backOf (W := 0) (rm3 l Z a0 hw [] a1 u0 v0 (6 : Int32) b1 b2 k1 k2 [(.int x0), (.int x1), (.int x2), (.int x3), (.int x4), (.int x5), (.int x6), (.int x7), (.int x8), (.int x9), (.int x10), (.int x11), (.int x12), (.int x13), (.int x14), (.int x15)] [(.int y0), (.int y1), (.int y2), (.int y3), (.int y4), (.int y5), (.int y6), (.int y7), (.int y8), (.int y9), (.int y10), (.int y11), (.int y12), (.int y13), (.int y14), (.int y15)] h0 n0 Z0 P0 P1 P2 P3 P4 P5 g_a1 g_b1 g_b2 ne_a1_b1 ne_a1_b2 ne_b1_b2 (by decide) (by decide) (by decide) (Nat.le_of_ble_eq_true rfl) (Nat.le_of_ble_eq_true rfl)) hZ (hw _ (List.mem_of_getElem? (i := 18) rfl)) (hw _ (List.mem_of_getElem? (i := 2) rfl)) (by decide) (by decide)) q246a q246c (g := (mkF m 23 #[.val (.ref a1), .val (.ref a2), .val (.int (0 : Int32))] [(.int v0), (.int u0), (.ref a1)])) rfl (by rw [hml]; rfl) (Steps.refl _) (argsL := [(.int u0), (.int v0)]) (rest := []) (lenOf pd_0 rfl) rfl (by show 2 * 0 + _ ≤ _; exact Nat.le_of_eq rfl) (hb hby d4_23) (fun _ _ => ⟨rfl, e244, (by decide : 0 + 0 ≤ _), (by decide : 0 + 0 ≤ _)⟩)
  dsimp only [Pt.U, Pt.locs, Pt.cells, Pt.slots] at X246 l246 y246 z246 st246 hQ246
  subst l246 y246 z246
  obtain ⟨rfl, Nq246, Kq246, U246_0, U246_1, U246_2, U246_3, U246_4⟩ := hQ246
  have Q247 : Exa Z T246.heap a1 "com/example/axiomwright/axiomwright/Arcs" := P0.keep Kq246
  have Q248 : Fld Z T246.heap a2 "com/example/axiomwright/axiomwright/Arcs" "size" "I" (.int (10 : Int32)) := P6.keep Kq246 (ninS ne_a2_a1 (ninS ne_a2_b1 (ninS ne_a2_b2 nin0)))
  have Q249 : Fld Z T246.heap a2 "com/example/axiomwright/axiomwright/Arcs" "from" "[I" (.ref c1) := P7.keep Kq246 (ninS ne_a2_a1 (ninS ne_a2_b1 (ninS ne_a2_b2 nin0)))
  have Q250 : Fld Z T246.heap a2 "com/example/axiomwright/axiomwright/Arcs" "to" "[I" (.ref c2) := P8.keep Kq246 (ninS ne_a2_a1 (ninS ne_a2_b1 (ninS ne_a2_b2 nin0)))
  have Q251 : Arv Z T246.heap c1 j1 .int (16 : Int32) [(.int u0), (.int u1), (.int u2), (.int u3), (.int u4), (.int u5), (.int u6), (.int u7), (.int u8), (.int u9), (.int u10), (.int u11), (.int u12), (.int u13), (.int u14), (.int u15)] (.int (0 : Int32)) := P9.keep Kq246 (ninS ne_c1_a1 (ninS ne_c1_b1 (ninS ne_c1_b2 nin0)))
  have Q252 : Arv Z T246.heap c2 j2 .int (16 : Int32) [(.int v0), (.int v1), (.int v2), (.int v3), (.int v4), (.int v5), (.int v6), (.int v7), (.int v8), (.int v9), (.int v10), (.int v11), (.int v12), (.int v13), (.int v14), (.int v15)] (.int (0 : Int32)) := P10.keep Kq246 (ninS ne_c2_a1 (ninS ne_c2_b1 (ninS ne_c2_b2 nin0)))
  have U246_0n : Fld Z T246.heap a1 "com/example/axiomwright/axiomwright/Arcs" "size" "I" (.int (7 : Int32)) := U246_0
  have U246_3n : Arv Z T246.heap b1 k1 .int (16 : Int32) [(.int x0), (.int x1), (.int x2), (.int x3), (.int x4), (.int x5), (.int u0), (.int x7), (.int x8), (.int x9), (.int x10), (.int x11), (.int x12), (.int x13), (.int x14), (.int x15)] (.int (0 : Int32)) := U246_3
  have U246_4n : Arv Z T246.heap b2 k2 .int (16 : Int32) [(.int y0), (.int y1), (.int y2), (.int y3), (.int y4), (.int y5), (.int v0), (.int y7), (.int y8), (.int y9), (.int y10), (.int y11), (.int y12), (.int y13), (.int y14), (.int y15)] (.int (0 : Int32)) := U246_4
  have Z246 : n0 ≤ T246.heap.size := Nat.le_trans Z0 Kq246.1
  have K246 : Keep h0 T246.heap [a1, b1, b2] := K0.trans Kq246 (allS (Or.inl (List.mem_of_getElem? (i := 0) rfl)) (allS (Or.inl (List.mem_of_getElem? (i := 1) rfl)) (allS (Or.inl (List.mem_of_getElem? (i := 2) rfl)) all0)))
  have N246 := Fr.app N0 Nq246
  refine own_go (A := _) (B := T246.setTop (mkF m 26 #[.val (.ref a1), .val (.ref a2), .val (.int (0 : Int32))] [])) (fun t k => st246.trans k) ?_
  refine own_go (A := T246.setTop (mkF m 26 #[.val (.ref a1), .val (.ref a2), .val (.int (0 : Int32))] [])) (B := T246.setTop (mkF m 4 #[.val (.ref a1), .val (.ref a2), .val (.int (1 : Int32))] [(.ref a2), (.int (1 : Int32))])) (fun t k => ?_) ?_
  · show Steps p.tables e below (T246.setTop (mkF m 26 #[.val (.ref a1), .val (.ref a2), .val (.int (0 : Int32))] [])) _
    refine XS.iinc X246.here hx rfl (hb hby d4_26) rfl (l' := #[.val (.ref a1), .val (.ref a2), .val (.int (1 : Int32))]) rfl ?_
    show Steps p.tables e below (T246.setTop (mkF m 29 #[.val (.ref a1), .val (.ref a2), .val (.int (1 : Int32))] [])) _
    refine XS.goto X246.here hx rfl (pc0 := 29) (pc' := 2) rfl (hb hby d4_29) (by decide) (by decide) ?_
    show Steps p.tables e below (T246.setTop (mkF m 2 #[.val (.ref a1), .val (.ref a2), .val (.int (1 : Int32))] [])) _
    refine XS.iloadN X246.here hx rfl (hb hby d4_2) rfl ?_
    show Steps p.tables e below (T246.setTop (mkF m 3 #[.val (.ref a1), .val (.ref a2), .val (.int (1 : Int32))] [(.int (1 : Int32))])) _
    refine XS.aloadN X246.here hx rfl (hb hby d4_3) rfl rfl ?_
    exact k
  obtain ⟨T253, X253, e253, st253⟩ := getF X246 hx hZ hown (host := "") (Or.inl (hw _ (List.mem_of_getElem? (i := 19) rfl))) Via.refl rfl Q248 (g := (mkF m 4 #[.val (.ref a1), .val (.ref a2), .val (.int (1 : Int32))] [(.ref a2), (.int (1 : Int32))])) rfl rfl (hb hby d4_4)
  refine own_go st253 ?_
  refine own_go (A := T253.setTop (mkF m 7 #[.val (.ref a1), .val (.ref a2), .val (.int (1 : Int32))] [(.int (10 : Int32)), (.int (1 : Int32))])) (B := T253.setTop (mkF m 12 #[.val (.ref a1), .val (.ref a2), .val (.int (1 : Int32))] [(.ref a2), (.ref a1)])) (fun t k => ?_) ?_
  · show Steps p.tables e below (T253.setTop (mkF m 7 #[.val (.ref a1), .val (.ref a2), .val (.int (1 : Int32))] [(.int (10 : Int32)), (.int (1 : Int32))])) _
    refine XS.icmpNo X253.here hx rfl (hb hby d4_7) rfl (tlt (by decide : ((1 : Int32) < (10 : Int32)))).2.1 ?_
    show Steps p.tables e below (T253.setTop (mkF m 10 #[.val (.ref a1), .val (.ref a2), .val (.int (1 : Int32))] [])) _
    refine XS.aloadN X253.here hx rfl (hb hby d4_10) rfl rfl ?_
    show Steps p.tables e below (T253.setTop (mkF m 11 #[.val (.ref a1), .val (.ref a2), .val (.int (1 : Int32))] [(.ref a1)])) _
    refine XS.aloadN X253.here hx rfl (hb hby d4_11) rfl rfl ?_
    exact k
  obtain ⟨T255, X255, e255, st255⟩ := getF X253 hx hZ hown (host := "") (Or.inl (hw _ (List.mem_of_getElem? (i := 10) rfl))) Via.refl e253 Q249 (g := (mkF m 12 #[.val (.ref a1), .val (.ref a2), .val (.int (1 : Int32))] [(.ref a2), (.ref a1)])) rfl rfl (hb hby d4_12)
  refine own_go st255 ?_
  refine own_go (A := T255.setTop (mkF m 15 #[.val (.ref a1), .val (.ref a2), .val (.int (1 : Int32))] [(.ref c1), (.ref a1)])) (B := T255.setTop (mkF m 16 #[.val (.ref a1), .val (.ref a2), .val (.int (1 : Int32))] [(.int (1 : Int32)), (.ref c1), (.ref a1)])) (fun t k => ?_) ?_
  · show Steps p.tables e below (T255.setTop (mkF m 15 #[.val (.ref a1), .val (.ref a2), .val (.int (1 : Int32))] [(.ref c1), (.ref a1)])) _
    refine XS.iloadN X255.here hx rfl (hb hby d4_15) rfl ?_
    exact k
  obtain ⟨cl256, Ar256, q256, S256, M256, Ha256, G256⟩ := id Q251
  have hin256 : ¬ ((1 : Int32) < 0 ∨ cl256.slots.size ≤ ((1 : Int32)).toNatClampNeg) := inb_of S256 ⟨by decide, by decide⟩
  refine own_go (A := T255.setTop (mkF m 16 #[.val (.ref a1), .val (.ref a2), .val (.int (1 : Int32))] [(.int (1 : Int32)), (.ref c1), (.ref a1)])) (X255.iaload hx (j := (1 : Int32)) (v := (.int u1)) (by rw [e255]; exact Ar256.1) (State.isArrayOf_alike hZ.alike Ar256.2.1) Ar256.2.2 hin256 (Has.at Ha256 hin256 rfl) (g := (mkF m 16 #[.val (.ref a1), .val (.ref a2), .val (.int (1 : Int32))] [(.int (1 : Int32)), (.ref c1), (.ref a1)])) rfl rfl (hb hby d4_16)) ?_
  refine own_go (A := T255.setTop (mkF m 17 #[.val (.ref a1), .val (.ref a2), .val (.int (1 : Int32))] [(.int u1), (.ref a1)])) (B := T255.setTop (mkF m 18 #[.val (.ref a1), .val (.ref a2), .val (.int (1 : Int32))] [(.ref a2), (.int u1), (.ref a1)])) (fun t k => ?_) ?_
  · show Steps p.tables e below (T255.setTop (mkF m 17 #[.val (.ref a1), .val (.ref a2), .val (.int (1 : Int32))] [(.int u1), (.ref a1)])) _
    refine XS.aloadN X255.here hx rfl (hb hby d4_17) rfl rfl ?_
    exact k
  obtain ⟨T257, X257, e257, st257⟩ := getF X255 hx hZ hown (host := "") (Or.inl (hw _ (List.mem_of_getElem? (i := 12) rfl))) Via.refl e255 Q250 (g := (mkF m 18 #[.val (.ref a1), .val (.ref a2), .val (.int (1 : Int32))] [(.ref a2), (.int u1), (.ref a1)])) rfl rfl (hb hby d4_18)
  refine own_go st257 ?_
  refine own_go (A := T257.setTop (mkF m 21 #[.val (.ref a1), .val (.ref a2), .val (.int (1 : Int32))] [(.ref c2), (.int u1), (.ref a1)])) (B := T257.setTop (mkF m 22 #[.val (.ref a1), .val (.ref a2), .val (.int (1 : Int32))] [(.int (1 : Int32)), (.ref c2), (.int u1), (.ref a1)])) (fun t k => ?_) ?_
  · show Steps p.tables e below (T257.setTop (mkF m 21 #[.val (.ref a1), .val (.ref a2), .val (.int (1 : Int32))] [(.ref c2), (.int u1), (.ref a1)])) _
    refine XS.iloadN X257.here hx rfl (hb hby d4_21) rfl ?_
    exact k
  obtain ⟨cl258, Ar258, q258, S258, M258, Ha258, G258⟩ := id Q252
  have hin258 : ¬ ((1 : Int32) < 0 ∨ cl258.slots.size ≤ ((1 : Int32)).toNatClampNeg) := inb_of S258 ⟨by decide, by decide⟩
  refine own_go (A := T257.setTop (mkF m 22 #[.val (.ref a1), .val (.ref a2), .val (.int (1 : Int32))] [(.int (1 : Int32)), (.ref c2), (.int u1), (.ref a1)])) (X257.iaload hx (j := (1 : Int32)) (v := (.int v1)) (by rw [e257]; exact Ar258.1) (State.isArrayOf_alike hZ.alike Ar258.2.1) Ar258.2.2 hin258 (Has.at Ha258 hin258 rfl) (g := (mkF m 22 #[.val (.ref a1), .val (.ref a2), .val (.int (1 : Int32))] [(.int (1 : Int32)), (.ref c2), (.int u1), (.ref a1)])) rfl rfl (hb hby d4_22)) ?_
  obtain ⟨cq259, kq259, q259a, q259b, q259c⟩ := isOf hZ e257 Q247
  obtain ⟨_, _, ⟨T259, L259, k259, n259⟩, -, X259, ⟨Lc259, hQ259, l259, y259, z259⟩, st259⟩ := X257.virtualBack hx (y := (⟨"com/example/axiomwright/axiomwright/Arcs", "add", "(II)V"⟩ : MethodName)) (z := (⟨"com/example/axiomwright/axiomwright/Arcs", "add", "(II)V"⟩ : MethodName)) hown (mvT hZ (hw _ (List.mem_of_getElem? (i := 26) rfl))) (mvT hZ (hw _ (List.mem_of_getElem? (i := 15) rfl))) (notFace_of_selects (args := #[]) (mvT hZ (hw _ (List.mem_of_getElem? (i := 17) rfl)))) (mvT hZ (hw _ (List.mem_of_getElem? (i := 17) rfl))) (mvT hZ (hw _ (List.mem_of_getElem? (i := 16) rfl))) (by decide) (backOf (W := 0) (rm3 l Z a0 hw [] a1 u1 v1 (7 : Int32) b1 b2 k1 k2 [(.int x0), (.int x1), (.int x2), (.int x3), (.int x4), (.int x5), (.int u0), (.int x7), (.int x8), (.int x9), (.int x10), (.int x11), (.int x12), (.int x13), (.int x14), (.int x15)] [(.int y0), (.int y1), (.int y2), (.int y3), (.int y4), (.int y5), (.int v0), (.int y7), (.int y8), (.int y9), (.int y10), (.int y11), (.int y12), (.int y13), (.int y14), (.int y15)] T246.heap n0 Z246 Q247 U246_0n U246_1 U246_2 U246_3n U246_4n g_a1 g_b1 g_b2 ne_a1_b1 ne_a1_b2 ne_b1_b2 (by decide) (by decide) (by decide) (Nat.le_of_ble_eq_true rfl) (Nat.le_of_ble_eq_true rfl)) hZ (hw _ (List.mem_of_getElem? (i := 18) rfl)) (hw _ (List.mem_of_getElem? (i := 2) rfl)) (by decide) (by decide)) q259a q259c (g := (mkF m 23 #[.val (.ref a1), .val (.ref a2), .val (.int (1 : Int32))] [(.int v1), (.int u1), (.ref a1)])) rfl (by rw [hml]; rfl) (Steps.refl _) (argsL := [(.int u1), (.int v1)]) (rest := []) (lenOf pd_0 rfl) rfl (by show 2 * 0 + _ ≤ _; exact Nat.le_of_eq rfl) (hb hby d4_23) (fun _ _ => ⟨rfl, e257, (by decide : 0 + 0 ≤ _), (by decide : 0 + 0 ≤ _)⟩)
  dsimp only [Pt.U, Pt.locs, Pt.cells, Pt.slots] at X259 l259 y259 z259 st259 hQ259
  subst l259 y259 z259
  obtain ⟨rfl, Nq259, Kq259, U259_0, U259_1, U259_2, U259_3, U259_4⟩ := hQ259
  have Q260 : Exa Z T259.heap a1 "com/example/axiomwright/axiomwright/Arcs" := Q247.keep Kq259
  have Q261 : Fld Z T259.heap a2 "com/example/axiomwright/axiomwright/Arcs" "size" "I" (.int (10 : Int32)) := Q248.keep Kq259 (ninS ne_a2_a1 (ninS ne_a2_b1 (ninS ne_a2_b2 nin0)))
  have Q262 : Fld Z T259.heap a2 "com/example/axiomwright/axiomwright/Arcs" "from" "[I" (.ref c1) := Q249.keep Kq259 (ninS ne_a2_a1 (ninS ne_a2_b1 (ninS ne_a2_b2 nin0)))
  have Q263 : Fld Z T259.heap a2 "com/example/axiomwright/axiomwright/Arcs" "to" "[I" (.ref c2) := Q250.keep Kq259 (ninS ne_a2_a1 (ninS ne_a2_b1 (ninS ne_a2_b2 nin0)))
  have Q264 : Arv Z T259.heap c1 j1 .int (16 : Int32) [(.int u0), (.int u1), (.int u2), (.int u3), (.int u4), (.int u5), (.int u6), (.int u7), (.int u8), (.int u9), (.int u10), (.int u11), (.int u12), (.int u13), (.int u14), (.int u15)] (.int (0 : Int32)) := Q251.keep Kq259 (ninS ne_c1_a1 (ninS ne_c1_b1 (ninS ne_c1_b2 nin0)))
  have Q265 : Arv Z T259.heap c2 j2 .int (16 : Int32) [(.int v0), (.int v1), (.int v2), (.int v3), (.int v4), (.int v5), (.int v6), (.int v7), (.int v8), (.int v9), (.int v10), (.int v11), (.int v12), (.int v13), (.int v14), (.int v15)] (.int (0 : Int32)) := Q252.keep Kq259 (ninS ne_c2_a1 (ninS ne_c2_b1 (ninS ne_c2_b2 nin0)))
  have U259_0n : Fld Z T259.heap a1 "com/example/axiomwright/axiomwright/Arcs" "size" "I" (.int (8 : Int32)) := U259_0
  have U259_3n : Arv Z T259.heap b1 k1 .int (16 : Int32) [(.int x0), (.int x1), (.int x2), (.int x3), (.int x4), (.int x5), (.int u0), (.int u1), (.int x8), (.int x9), (.int x10), (.int x11), (.int x12), (.int x13), (.int x14), (.int x15)] (.int (0 : Int32)) := U259_3
  have U259_4n : Arv Z T259.heap b2 k2 .int (16 : Int32) [(.int y0), (.int y1), (.int y2), (.int y3), (.int y4), (.int y5), (.int v0), (.int v1), (.int y8), (.int y9), (.int y10), (.int y11), (.int y12), (.int y13), (.int y14), (.int y15)] (.int (0 : Int32)) := U259_4
  have Z259 : n0 ≤ T259.heap.size := Nat.le_trans Z246 Kq259.1
  have K259 : Keep h0 T259.heap [a1, b1, b2] := K246.trans Kq259 (allS (Or.inl (List.mem_of_getElem? (i := 0) rfl)) (allS (Or.inl (List.mem_of_getElem? (i := 1) rfl)) (allS (Or.inl (List.mem_of_getElem? (i := 2) rfl)) all0)))
  have N259 := Fr.app N246 Nq259
  refine own_go (A := _) (B := T259.setTop (mkF m 26 #[.val (.ref a1), .val (.ref a2), .val (.int (1 : Int32))] [])) (fun t k => st259.trans k) ?_
  refine own_go (A := T259.setTop (mkF m 26 #[.val (.ref a1), .val (.ref a2), .val (.int (1 : Int32))] [])) (B := T259.setTop (mkF m 4 #[.val (.ref a1), .val (.ref a2), .val (.int (2 : Int32))] [(.ref a2), (.int (2 : Int32))])) (fun t k => ?_) ?_
  · show Steps p.tables e below (T259.setTop (mkF m 26 #[.val (.ref a1), .val (.ref a2), .val (.int (1 : Int32))] [])) _
    refine XS.iinc X259.here hx rfl (hb hby d4_26) rfl (l' := #[.val (.ref a1), .val (.ref a2), .val (.int (2 : Int32))]) rfl ?_
    show Steps p.tables e below (T259.setTop (mkF m 29 #[.val (.ref a1), .val (.ref a2), .val (.int (2 : Int32))] [])) _
    refine XS.goto X259.here hx rfl (pc0 := 29) (pc' := 2) rfl (hb hby d4_29) (by decide) (by decide) ?_
    show Steps p.tables e below (T259.setTop (mkF m 2 #[.val (.ref a1), .val (.ref a2), .val (.int (2 : Int32))] [])) _
    refine XS.iloadN X259.here hx rfl (hb hby d4_2) rfl ?_
    show Steps p.tables e below (T259.setTop (mkF m 3 #[.val (.ref a1), .val (.ref a2), .val (.int (2 : Int32))] [(.int (2 : Int32))])) _
    refine XS.aloadN X259.here hx rfl (hb hby d4_3) rfl rfl ?_
    exact k
  obtain ⟨T266, X266, e266, st266⟩ := getF X259 hx hZ hown (host := "") (Or.inl (hw _ (List.mem_of_getElem? (i := 19) rfl))) Via.refl rfl Q261 (g := (mkF m 4 #[.val (.ref a1), .val (.ref a2), .val (.int (2 : Int32))] [(.ref a2), (.int (2 : Int32))])) rfl rfl (hb hby d4_4)
  refine own_go st266 ?_
  refine own_go (A := T266.setTop (mkF m 7 #[.val (.ref a1), .val (.ref a2), .val (.int (2 : Int32))] [(.int (10 : Int32)), (.int (2 : Int32))])) (B := T266.setTop (mkF m 12 #[.val (.ref a1), .val (.ref a2), .val (.int (2 : Int32))] [(.ref a2), (.ref a1)])) (fun t k => ?_) ?_
  · show Steps p.tables e below (T266.setTop (mkF m 7 #[.val (.ref a1), .val (.ref a2), .val (.int (2 : Int32))] [(.int (10 : Int32)), (.int (2 : Int32))])) _
    refine XS.icmpNo X266.here hx rfl (hb hby d4_7) rfl (tlt (by decide : ((2 : Int32) < (10 : Int32)))).2.1 ?_
    show Steps p.tables e below (T266.setTop (mkF m 10 #[.val (.ref a1), .val (.ref a2), .val (.int (2 : Int32))] [])) _
    refine XS.aloadN X266.here hx rfl (hb hby d4_10) rfl rfl ?_
    show Steps p.tables e below (T266.setTop (mkF m 11 #[.val (.ref a1), .val (.ref a2), .val (.int (2 : Int32))] [(.ref a1)])) _
    refine XS.aloadN X266.here hx rfl (hb hby d4_11) rfl rfl ?_
    exact k
  obtain ⟨T268, X268, e268, st268⟩ := getF X266 hx hZ hown (host := "") (Or.inl (hw _ (List.mem_of_getElem? (i := 10) rfl))) Via.refl e266 Q262 (g := (mkF m 12 #[.val (.ref a1), .val (.ref a2), .val (.int (2 : Int32))] [(.ref a2), (.ref a1)])) rfl rfl (hb hby d4_12)
  refine own_go st268 ?_
  refine own_go (A := T268.setTop (mkF m 15 #[.val (.ref a1), .val (.ref a2), .val (.int (2 : Int32))] [(.ref c1), (.ref a1)])) (B := T268.setTop (mkF m 16 #[.val (.ref a1), .val (.ref a2), .val (.int (2 : Int32))] [(.int (2 : Int32)), (.ref c1), (.ref a1)])) (fun t k => ?_) ?_
  · show Steps p.tables e below (T268.setTop (mkF m 15 #[.val (.ref a1), .val (.ref a2), .val (.int (2 : Int32))] [(.ref c1), (.ref a1)])) _
    refine XS.iloadN X268.here hx rfl (hb hby d4_15) rfl ?_
    exact k
  obtain ⟨cl269, Ar269, q269, S269, M269, Ha269, G269⟩ := id Q264
  have hin269 : ¬ ((2 : Int32) < 0 ∨ cl269.slots.size ≤ ((2 : Int32)).toNatClampNeg) := inb_of S269 ⟨by decide, by decide⟩
  refine own_go (A := T268.setTop (mkF m 16 #[.val (.ref a1), .val (.ref a2), .val (.int (2 : Int32))] [(.int (2 : Int32)), (.ref c1), (.ref a1)])) (X268.iaload hx (j := (2 : Int32)) (v := (.int u2)) (by rw [e268]; exact Ar269.1) (State.isArrayOf_alike hZ.alike Ar269.2.1) Ar269.2.2 hin269 (Has.at Ha269 hin269 rfl) (g := (mkF m 16 #[.val (.ref a1), .val (.ref a2), .val (.int (2 : Int32))] [(.int (2 : Int32)), (.ref c1), (.ref a1)])) rfl rfl (hb hby d4_16)) ?_
  refine own_go (A := T268.setTop (mkF m 17 #[.val (.ref a1), .val (.ref a2), .val (.int (2 : Int32))] [(.int u2), (.ref a1)])) (B := T268.setTop (mkF m 18 #[.val (.ref a1), .val (.ref a2), .val (.int (2 : Int32))] [(.ref a2), (.int u2), (.ref a1)])) (fun t k => ?_) ?_
  · show Steps p.tables e below (T268.setTop (mkF m 17 #[.val (.ref a1), .val (.ref a2), .val (.int (2 : Int32))] [(.int u2), (.ref a1)])) _
    refine XS.aloadN X268.here hx rfl (hb hby d4_17) rfl rfl ?_
    exact k
  obtain ⟨T270, X270, e270, st270⟩ := getF X268 hx hZ hown (host := "") (Or.inl (hw _ (List.mem_of_getElem? (i := 12) rfl))) Via.refl e268 Q263 (g := (mkF m 18 #[.val (.ref a1), .val (.ref a2), .val (.int (2 : Int32))] [(.ref a2), (.int u2), (.ref a1)])) rfl rfl (hb hby d4_18)
  refine own_go st270 ?_
  refine own_go (A := T270.setTop (mkF m 21 #[.val (.ref a1), .val (.ref a2), .val (.int (2 : Int32))] [(.ref c2), (.int u2), (.ref a1)])) (B := T270.setTop (mkF m 22 #[.val (.ref a1), .val (.ref a2), .val (.int (2 : Int32))] [(.int (2 : Int32)), (.ref c2), (.int u2), (.ref a1)])) (fun t k => ?_) ?_
  · show Steps p.tables e below (T270.setTop (mkF m 21 #[.val (.ref a1), .val (.ref a2), .val (.int (2 : Int32))] [(.ref c2), (.int u2), (.ref a1)])) _
    refine XS.iloadN X270.here hx rfl (hb hby d4_21) rfl ?_
    exact k
  obtain ⟨cl271, Ar271, q271, S271, M271, Ha271, G271⟩ := id Q265
  have hin271 : ¬ ((2 : Int32) < 0 ∨ cl271.slots.size ≤ ((2 : Int32)).toNatClampNeg) := inb_of S271 ⟨by decide, by decide⟩
  refine own_go (A := T270.setTop (mkF m 22 #[.val (.ref a1), .val (.ref a2), .val (.int (2 : Int32))] [(.int (2 : Int32)), (.ref c2), (.int u2), (.ref a1)])) (X270.iaload hx (j := (2 : Int32)) (v := (.int v2)) (by rw [e270]; exact Ar271.1) (State.isArrayOf_alike hZ.alike Ar271.2.1) Ar271.2.2 hin271 (Has.at Ha271 hin271 rfl) (g := (mkF m 22 #[.val (.ref a1), .val (.ref a2), .val (.int (2 : Int32))] [(.int (2 : Int32)), (.ref c2), (.int u2), (.ref a1)])) rfl rfl (hb hby d4_22)) ?_
  obtain ⟨cq272, kq272, q272a, q272b, q272c⟩ := isOf hZ e270 Q260
  obtain ⟨_, _, ⟨T272, L272, k272, n272⟩, -, X272, ⟨Lc272, hQ272, l272, y272, z272⟩, st272⟩ := X270.virtualBack hx (y := (⟨"com/example/axiomwright/axiomwright/Arcs", "add", "(II)V"⟩ : MethodName)) (z := (⟨"com/example/axiomwright/axiomwright/Arcs", "add", "(II)V"⟩ : MethodName)) hown (mvT hZ (hw _ (List.mem_of_getElem? (i := 26) rfl))) (mvT hZ (hw _ (List.mem_of_getElem? (i := 15) rfl))) (notFace_of_selects (args := #[]) (mvT hZ (hw _ (List.mem_of_getElem? (i := 17) rfl)))) (mvT hZ (hw _ (List.mem_of_getElem? (i := 17) rfl))) (mvT hZ (hw _ (List.mem_of_getElem? (i := 16) rfl))) (by decide) (backOf (W := 0) (rm3 l Z a0 hw [] a1 u2 v2 (8 : Int32) b1 b2 k1 k2 [(.int x0), (.int x1), (.int x2), (.int x3), (.int x4), (.int x5), (.int u0), (.int u1), (.int x8), (.int x9), (.int x10), (.int x11), (.int x12), (.int x13), (.int x14), (.int x15)] [(.int y0), (.int y1), (.int y2), (.int y3), (.int y4), (.int y5), (.int v0), (.int v1), (.int y8), (.int y9), (.int y10), (.int y11), (.int y12), (.int y13), (.int y14), (.int y15)] T259.heap n0 Z259 Q260 U259_0n U259_1 U259_2 U259_3n U259_4n g_a1 g_b1 g_b2 ne_a1_b1 ne_a1_b2 ne_b1_b2 (by decide) (by decide) (by decide) (Nat.le_of_ble_eq_true rfl) (Nat.le_of_ble_eq_true rfl)) hZ (hw _ (List.mem_of_getElem? (i := 18) rfl)) (hw _ (List.mem_of_getElem? (i := 2) rfl)) (by decide) (by decide)) q272a q272c (g := (mkF m 23 #[.val (.ref a1), .val (.ref a2), .val (.int (2 : Int32))] [(.int v2), (.int u2), (.ref a1)])) rfl (by rw [hml]; rfl) (Steps.refl _) (argsL := [(.int u2), (.int v2)]) (rest := []) (lenOf pd_0 rfl) rfl (by show 2 * 0 + _ ≤ _; exact Nat.le_of_eq rfl) (hb hby d4_23) (fun _ _ => ⟨rfl, e270, (by decide : 0 + 0 ≤ _), (by decide : 0 + 0 ≤ _)⟩)
  dsimp only [Pt.U, Pt.locs, Pt.cells, Pt.slots] at X272 l272 y272 z272 st272 hQ272
  subst l272 y272 z272
  obtain ⟨rfl, Nq272, Kq272, U272_0, U272_1, U272_2, U272_3, U272_4⟩ := hQ272
  have Q273 : Exa Z T272.heap a1 "com/example/axiomwright/axiomwright/Arcs" := Q260.keep Kq272
  have Q274 : Fld Z T272.heap a2 "com/example/axiomwright/axiomwright/Arcs" "size" "I" (.int (10 : Int32)) := Q261.keep Kq272 (ninS ne_a2_a1 (ninS ne_a2_b1 (ninS ne_a2_b2 nin0)))
  have Q275 : Fld Z T272.heap a2 "com/example/axiomwright/axiomwright/Arcs" "from" "[I" (.ref c1) := Q262.keep Kq272 (ninS ne_a2_a1 (ninS ne_a2_b1 (ninS ne_a2_b2 nin0)))
  have Q276 : Fld Z T272.heap a2 "com/example/axiomwright/axiomwright/Arcs" "to" "[I" (.ref c2) := Q263.keep Kq272 (ninS ne_a2_a1 (ninS ne_a2_b1 (ninS ne_a2_b2 nin0)))
  have Q277 : Arv Z T272.heap c1 j1 .int (16 : Int32) [(.int u0), (.int u1), (.int u2), (.int u3), (.int u4), (.int u5), (.int u6), (.int u7), (.int u8), (.int u9), (.int u10), (.int u11), (.int u12), (.int u13), (.int u14), (.int u15)] (.int (0 : Int32)) := Q264.keep Kq272 (ninS ne_c1_a1 (ninS ne_c1_b1 (ninS ne_c1_b2 nin0)))
  have Q278 : Arv Z T272.heap c2 j2 .int (16 : Int32) [(.int v0), (.int v1), (.int v2), (.int v3), (.int v4), (.int v5), (.int v6), (.int v7), (.int v8), (.int v9), (.int v10), (.int v11), (.int v12), (.int v13), (.int v14), (.int v15)] (.int (0 : Int32)) := Q265.keep Kq272 (ninS ne_c2_a1 (ninS ne_c2_b1 (ninS ne_c2_b2 nin0)))
  have U272_0n : Fld Z T272.heap a1 "com/example/axiomwright/axiomwright/Arcs" "size" "I" (.int (9 : Int32)) := U272_0
  have U272_3n : Arv Z T272.heap b1 k1 .int (16 : Int32) [(.int x0), (.int x1), (.int x2), (.int x3), (.int x4), (.int x5), (.int u0), (.int u1), (.int u2), (.int x9), (.int x10), (.int x11), (.int x12), (.int x13), (.int x14), (.int x15)] (.int (0 : Int32)) := U272_3
  have U272_4n : Arv Z T272.heap b2 k2 .int (16 : Int32) [(.int y0), (.int y1), (.int y2), (.int y3), (.int y4), (.int y5), (.int v0), (.int v1), (.int v2), (.int y9), (.int y10), (.int y11), (.int y12), (.int y13), (.int y14), (.int y15)] (.int (0 : Int32)) := U272_4
  have Z272 : n0 ≤ T272.heap.size := Nat.le_trans Z259 Kq272.1
  have K272 : Keep h0 T272.heap [a1, b1, b2] := K259.trans Kq272 (allS (Or.inl (List.mem_of_getElem? (i := 0) rfl)) (allS (Or.inl (List.mem_of_getElem? (i := 1) rfl)) (allS (Or.inl (List.mem_of_getElem? (i := 2) rfl)) all0)))
  have N272 := Fr.app N259 Nq272
  refine own_go (A := _) (B := T272.setTop (mkF m 26 #[.val (.ref a1), .val (.ref a2), .val (.int (2 : Int32))] [])) (fun t k => st272.trans k) ?_
  refine own_go (A := T272.setTop (mkF m 26 #[.val (.ref a1), .val (.ref a2), .val (.int (2 : Int32))] [])) (B := T272.setTop (mkF m 4 #[.val (.ref a1), .val (.ref a2), .val (.int (3 : Int32))] [(.ref a2), (.int (3 : Int32))])) (fun t k => ?_) ?_
  · show Steps p.tables e below (T272.setTop (mkF m 26 #[.val (.ref a1), .val (.ref a2), .val (.int (2 : Int32))] [])) _
    refine XS.iinc X272.here hx rfl (hb hby d4_26) rfl (l' := #[.val (.ref a1), .val (.ref a2), .val (.int (3 : Int32))]) rfl ?_
    show Steps p.tables e below (T272.setTop (mkF m 29 #[.val (.ref a1), .val (.ref a2), .val (.int (3 : Int32))] [])) _
    refine XS.goto X272.here hx rfl (pc0 := 29) (pc' := 2) rfl (hb hby d4_29) (by decide) (by decide) ?_
    show Steps p.tables e below (T272.setTop (mkF m 2 #[.val (.ref a1), .val (.ref a2), .val (.int (3 : Int32))] [])) _
    refine XS.iloadN X272.here hx rfl (hb hby d4_2) rfl ?_
    show Steps p.tables e below (T272.setTop (mkF m 3 #[.val (.ref a1), .val (.ref a2), .val (.int (3 : Int32))] [(.int (3 : Int32))])) _
    refine XS.aloadN X272.here hx rfl (hb hby d4_3) rfl rfl ?_
    exact k
  obtain ⟨T279, X279, e279, st279⟩ := getF X272 hx hZ hown (host := "") (Or.inl (hw _ (List.mem_of_getElem? (i := 19) rfl))) Via.refl rfl Q274 (g := (mkF m 4 #[.val (.ref a1), .val (.ref a2), .val (.int (3 : Int32))] [(.ref a2), (.int (3 : Int32))])) rfl rfl (hb hby d4_4)
  refine own_go st279 ?_
  refine own_go (A := T279.setTop (mkF m 7 #[.val (.ref a1), .val (.ref a2), .val (.int (3 : Int32))] [(.int (10 : Int32)), (.int (3 : Int32))])) (B := T279.setTop (mkF m 12 #[.val (.ref a1), .val (.ref a2), .val (.int (3 : Int32))] [(.ref a2), (.ref a1)])) (fun t k => ?_) ?_
  · show Steps p.tables e below (T279.setTop (mkF m 7 #[.val (.ref a1), .val (.ref a2), .val (.int (3 : Int32))] [(.int (10 : Int32)), (.int (3 : Int32))])) _
    refine XS.icmpNo X279.here hx rfl (hb hby d4_7) rfl (tlt (by decide : ((3 : Int32) < (10 : Int32)))).2.1 ?_
    show Steps p.tables e below (T279.setTop (mkF m 10 #[.val (.ref a1), .val (.ref a2), .val (.int (3 : Int32))] [])) _
    refine XS.aloadN X279.here hx rfl (hb hby d4_10) rfl rfl ?_
    show Steps p.tables e below (T279.setTop (mkF m 11 #[.val (.ref a1), .val (.ref a2), .val (.int (3 : Int32))] [(.ref a1)])) _
    refine XS.aloadN X279.here hx rfl (hb hby d4_11) rfl rfl ?_
    exact k
  obtain ⟨T281, X281, e281, st281⟩ := getF X279 hx hZ hown (host := "") (Or.inl (hw _ (List.mem_of_getElem? (i := 10) rfl))) Via.refl e279 Q275 (g := (mkF m 12 #[.val (.ref a1), .val (.ref a2), .val (.int (3 : Int32))] [(.ref a2), (.ref a1)])) rfl rfl (hb hby d4_12)
  refine own_go st281 ?_
  refine own_go (A := T281.setTop (mkF m 15 #[.val (.ref a1), .val (.ref a2), .val (.int (3 : Int32))] [(.ref c1), (.ref a1)])) (B := T281.setTop (mkF m 16 #[.val (.ref a1), .val (.ref a2), .val (.int (3 : Int32))] [(.int (3 : Int32)), (.ref c1), (.ref a1)])) (fun t k => ?_) ?_
  · show Steps p.tables e below (T281.setTop (mkF m 15 #[.val (.ref a1), .val (.ref a2), .val (.int (3 : Int32))] [(.ref c1), (.ref a1)])) _
    refine XS.iloadN X281.here hx rfl (hb hby d4_15) rfl ?_
    exact k
  obtain ⟨cl282, Ar282, q282, S282, M282, Ha282, G282⟩ := id Q277
  have hin282 : ¬ ((3 : Int32) < 0 ∨ cl282.slots.size ≤ ((3 : Int32)).toNatClampNeg) := inb_of S282 ⟨by decide, by decide⟩
  refine own_go (A := T281.setTop (mkF m 16 #[.val (.ref a1), .val (.ref a2), .val (.int (3 : Int32))] [(.int (3 : Int32)), (.ref c1), (.ref a1)])) (X281.iaload hx (j := (3 : Int32)) (v := (.int u3)) (by rw [e281]; exact Ar282.1) (State.isArrayOf_alike hZ.alike Ar282.2.1) Ar282.2.2 hin282 (Has.at Ha282 hin282 rfl) (g := (mkF m 16 #[.val (.ref a1), .val (.ref a2), .val (.int (3 : Int32))] [(.int (3 : Int32)), (.ref c1), (.ref a1)])) rfl rfl (hb hby d4_16)) ?_
  refine own_go (A := T281.setTop (mkF m 17 #[.val (.ref a1), .val (.ref a2), .val (.int (3 : Int32))] [(.int u3), (.ref a1)])) (B := T281.setTop (mkF m 18 #[.val (.ref a1), .val (.ref a2), .val (.int (3 : Int32))] [(.ref a2), (.int u3), (.ref a1)])) (fun t k => ?_) ?_
  · show Steps p.tables e below (T281.setTop (mkF m 17 #[.val (.ref a1), .val (.ref a2), .val (.int (3 : Int32))] [(.int u3), (.ref a1)])) _
    refine XS.aloadN X281.here hx rfl (hb hby d4_17) rfl rfl ?_
    exact k
  obtain ⟨T283, X283, e283, st283⟩ := getF X281 hx hZ hown (host := "") (Or.inl (hw _ (List.mem_of_getElem? (i := 12) rfl))) Via.refl e281 Q276 (g := (mkF m 18 #[.val (.ref a1), .val (.ref a2), .val (.int (3 : Int32))] [(.ref a2), (.int u3), (.ref a1)])) rfl rfl (hb hby d4_18)
  refine own_go st283 ?_
  refine own_go (A := T283.setTop (mkF m 21 #[.val (.ref a1), .val (.ref a2), .val (.int (3 : Int32))] [(.ref c2), (.int u3), (.ref a1)])) (B := T283.setTop (mkF m 22 #[.val (.ref a1), .val (.ref a2), .val (.int (3 : Int32))] [(.int (3 : Int32)), (.ref c2), (.int u3), (.ref a1)])) (fun t k => ?_) ?_
  · show Steps p.tables e below (T283.setTop (mkF m 21 #[.val (.ref a1), .val (.ref a2), .val (.int (3 : Int32))] [(.ref c2), (.int u3), (.ref a1)])) _
    refine XS.iloadN X283.here hx rfl (hb hby d4_21) rfl ?_
    exact k
  obtain ⟨cl284, Ar284, q284, S284, M284, Ha284, G284⟩ := id Q278
  have hin284 : ¬ ((3 : Int32) < 0 ∨ cl284.slots.size ≤ ((3 : Int32)).toNatClampNeg) := inb_of S284 ⟨by decide, by decide⟩
  refine own_go (A := T283.setTop (mkF m 22 #[.val (.ref a1), .val (.ref a2), .val (.int (3 : Int32))] [(.int (3 : Int32)), (.ref c2), (.int u3), (.ref a1)])) (X283.iaload hx (j := (3 : Int32)) (v := (.int v3)) (by rw [e283]; exact Ar284.1) (State.isArrayOf_alike hZ.alike Ar284.2.1) Ar284.2.2 hin284 (Has.at Ha284 hin284 rfl) (g := (mkF m 22 #[.val (.ref a1), .val (.ref a2), .val (.int (3 : Int32))] [(.int (3 : Int32)), (.ref c2), (.int u3), (.ref a1)])) rfl rfl (hb hby d4_22)) ?_
  obtain ⟨cq285, kq285, q285a, q285b, q285c⟩ := isOf hZ e283 Q273
  obtain ⟨_, _, ⟨T285, L285, k285, n285⟩, -, X285, ⟨Lc285, hQ285, l285, y285, z285⟩, st285⟩ := X283.virtualBack hx (y := (⟨"com/example/axiomwright/axiomwright/Arcs", "add", "(II)V"⟩ : MethodName)) (z := (⟨"com/example/axiomwright/axiomwright/Arcs", "add", "(II)V"⟩ : MethodName)) hown (mvT hZ (hw _ (List.mem_of_getElem? (i := 26) rfl))) (mvT hZ (hw _ (List.mem_of_getElem? (i := 15) rfl))) (notFace_of_selects (args := #[]) (mvT hZ (hw _ (List.mem_of_getElem? (i := 17) rfl)))) (mvT hZ (hw _ (List.mem_of_getElem? (i := 17) rfl))) (mvT hZ (hw _ (List.mem_of_getElem? (i := 16) rfl))) (by decide) (backOf (W := 0) (rm3 l Z a0 hw [] a1 u3 v3 (9 : Int32) b1 b2 k1 k2 [(.int x0), (.int x1), (.int x2), (.int x3), (.int x4), (.int x5), (.int u0), (.int u1), (.int u2), (.int x9), (.int x10), (.int x11), (.int x12), (.int x13), (.int x14), (.int x15)] [(.int y0), (.int y1), (.int y2), (.int y3), (.int y4), (.int y5), (.int v0), (.int v1), (.int v2), (.int y9), (.int y10), (.int y11), (.int y12), (.int y13), (.int y14), (.int y15)] T272.heap n0 Z272 Q273 U272_0n U272_1 U272_2 U272_3n U272_4n g_a1 g_b1 g_b2 ne_a1_b1 ne_a1_b2 ne_b1_b2 (by decide) (by decide) (by decide) (Nat.le_of_ble_eq_true rfl) (Nat.le_of_ble_eq_true rfl)) hZ (hw _ (List.mem_of_getElem? (i := 18) rfl)) (hw _ (List.mem_of_getElem? (i := 2) rfl)) (by decide) (by decide)) q285a q285c (g := (mkF m 23 #[.val (.ref a1), .val (.ref a2), .val (.int (3 : Int32))] [(.int v3), (.int u3), (.ref a1)])) rfl (by rw [hml]; rfl) (Steps.refl _) (argsL := [(.int u3), (.int v3)]) (rest := []) (lenOf pd_0 rfl) rfl (by show 2 * 0 + _ ≤ _; exact Nat.le_of_eq rfl) (hb hby d4_23) (fun _ _ => ⟨rfl, e283, (by decide : 0 + 0 ≤ _), (by decide : 0 + 0 ≤ _)⟩)
  dsimp only [Pt.U, Pt.locs, Pt.cells, Pt.slots] at X285 l285 y285 z285 st285 hQ285
  subst l285 y285 z285
  obtain ⟨rfl, Nq285, Kq285, U285_0, U285_1, U285_2, U285_3, U285_4⟩ := hQ285
  have Q286 : Exa Z T285.heap a1 "com/example/axiomwright/axiomwright/Arcs" := Q273.keep Kq285
  have Q287 : Fld Z T285.heap a2 "com/example/axiomwright/axiomwright/Arcs" "size" "I" (.int (10 : Int32)) := Q274.keep Kq285 (ninS ne_a2_a1 (ninS ne_a2_b1 (ninS ne_a2_b2 nin0)))
  have Q288 : Fld Z T285.heap a2 "com/example/axiomwright/axiomwright/Arcs" "from" "[I" (.ref c1) := Q275.keep Kq285 (ninS ne_a2_a1 (ninS ne_a2_b1 (ninS ne_a2_b2 nin0)))
  have Q289 : Fld Z T285.heap a2 "com/example/axiomwright/axiomwright/Arcs" "to" "[I" (.ref c2) := Q276.keep Kq285 (ninS ne_a2_a1 (ninS ne_a2_b1 (ninS ne_a2_b2 nin0)))
  have Q290 : Arv Z T285.heap c1 j1 .int (16 : Int32) [(.int u0), (.int u1), (.int u2), (.int u3), (.int u4), (.int u5), (.int u6), (.int u7), (.int u8), (.int u9), (.int u10), (.int u11), (.int u12), (.int u13), (.int u14), (.int u15)] (.int (0 : Int32)) := Q277.keep Kq285 (ninS ne_c1_a1 (ninS ne_c1_b1 (ninS ne_c1_b2 nin0)))
  have Q291 : Arv Z T285.heap c2 j2 .int (16 : Int32) [(.int v0), (.int v1), (.int v2), (.int v3), (.int v4), (.int v5), (.int v6), (.int v7), (.int v8), (.int v9), (.int v10), (.int v11), (.int v12), (.int v13), (.int v14), (.int v15)] (.int (0 : Int32)) := Q278.keep Kq285 (ninS ne_c2_a1 (ninS ne_c2_b1 (ninS ne_c2_b2 nin0)))
  have U285_0n : Fld Z T285.heap a1 "com/example/axiomwright/axiomwright/Arcs" "size" "I" (.int (10 : Int32)) := U285_0
  have U285_3n : Arv Z T285.heap b1 k1 .int (16 : Int32) [(.int x0), (.int x1), (.int x2), (.int x3), (.int x4), (.int x5), (.int u0), (.int u1), (.int u2), (.int u3), (.int x10), (.int x11), (.int x12), (.int x13), (.int x14), (.int x15)] (.int (0 : Int32)) := U285_3
  have U285_4n : Arv Z T285.heap b2 k2 .int (16 : Int32) [(.int y0), (.int y1), (.int y2), (.int y3), (.int y4), (.int y5), (.int v0), (.int v1), (.int v2), (.int v3), (.int y10), (.int y11), (.int y12), (.int y13), (.int y14), (.int y15)] (.int (0 : Int32)) := U285_4
  have Z285 : n0 ≤ T285.heap.size := Nat.le_trans Z272 Kq285.1
  have K285 : Keep h0 T285.heap [a1, b1, b2] := K272.trans Kq285 (allS (Or.inl (List.mem_of_getElem? (i := 0) rfl)) (allS (Or.inl (List.mem_of_getElem? (i := 1) rfl)) (allS (Or.inl (List.mem_of_getElem? (i := 2) rfl)) all0)))
  have N285 := Fr.app N272 Nq285
  refine own_go (A := _) (B := T285.setTop (mkF m 26 #[.val (.ref a1), .val (.ref a2), .val (.int (3 : Int32))] [])) (fun t k => st285.trans k) ?_
  refine own_go (A := T285.setTop (mkF m 26 #[.val (.ref a1), .val (.ref a2), .val (.int (3 : Int32))] [])) (B := T285.setTop (mkF m 4 #[.val (.ref a1), .val (.ref a2), .val (.int (4 : Int32))] [(.ref a2), (.int (4 : Int32))])) (fun t k => ?_) ?_
  · show Steps p.tables e below (T285.setTop (mkF m 26 #[.val (.ref a1), .val (.ref a2), .val (.int (3 : Int32))] [])) _
    refine XS.iinc X285.here hx rfl (hb hby d4_26) rfl (l' := #[.val (.ref a1), .val (.ref a2), .val (.int (4 : Int32))]) rfl ?_
    show Steps p.tables e below (T285.setTop (mkF m 29 #[.val (.ref a1), .val (.ref a2), .val (.int (4 : Int32))] [])) _
    refine XS.goto X285.here hx rfl (pc0 := 29) (pc' := 2) rfl (hb hby d4_29) (by decide) (by decide) ?_
    show Steps p.tables e below (T285.setTop (mkF m 2 #[.val (.ref a1), .val (.ref a2), .val (.int (4 : Int32))] [])) _
    refine XS.iloadN X285.here hx rfl (hb hby d4_2) rfl ?_
    show Steps p.tables e below (T285.setTop (mkF m 3 #[.val (.ref a1), .val (.ref a2), .val (.int (4 : Int32))] [(.int (4 : Int32))])) _
    refine XS.aloadN X285.here hx rfl (hb hby d4_3) rfl rfl ?_
    exact k
  obtain ⟨T292, X292, e292, st292⟩ := getF X285 hx hZ hown (host := "") (Or.inl (hw _ (List.mem_of_getElem? (i := 19) rfl))) Via.refl rfl Q287 (g := (mkF m 4 #[.val (.ref a1), .val (.ref a2), .val (.int (4 : Int32))] [(.ref a2), (.int (4 : Int32))])) rfl rfl (hb hby d4_4)
  refine own_go st292 ?_
  refine own_go (A := T292.setTop (mkF m 7 #[.val (.ref a1), .val (.ref a2), .val (.int (4 : Int32))] [(.int (10 : Int32)), (.int (4 : Int32))])) (B := T292.setTop (mkF m 12 #[.val (.ref a1), .val (.ref a2), .val (.int (4 : Int32))] [(.ref a2), (.ref a1)])) (fun t k => ?_) ?_
  · show Steps p.tables e below (T292.setTop (mkF m 7 #[.val (.ref a1), .val (.ref a2), .val (.int (4 : Int32))] [(.int (10 : Int32)), (.int (4 : Int32))])) _
    refine XS.icmpNo X292.here hx rfl (hb hby d4_7) rfl (tlt (by decide : ((4 : Int32) < (10 : Int32)))).2.1 ?_
    show Steps p.tables e below (T292.setTop (mkF m 10 #[.val (.ref a1), .val (.ref a2), .val (.int (4 : Int32))] [])) _
    refine XS.aloadN X292.here hx rfl (hb hby d4_10) rfl rfl ?_
    show Steps p.tables e below (T292.setTop (mkF m 11 #[.val (.ref a1), .val (.ref a2), .val (.int (4 : Int32))] [(.ref a1)])) _
    refine XS.aloadN X292.here hx rfl (hb hby d4_11) rfl rfl ?_
    exact k
  obtain ⟨T294, X294, e294, st294⟩ := getF X292 hx hZ hown (host := "") (Or.inl (hw _ (List.mem_of_getElem? (i := 10) rfl))) Via.refl e292 Q288 (g := (mkF m 12 #[.val (.ref a1), .val (.ref a2), .val (.int (4 : Int32))] [(.ref a2), (.ref a1)])) rfl rfl (hb hby d4_12)
  refine own_go st294 ?_
  refine own_go (A := T294.setTop (mkF m 15 #[.val (.ref a1), .val (.ref a2), .val (.int (4 : Int32))] [(.ref c1), (.ref a1)])) (B := T294.setTop (mkF m 16 #[.val (.ref a1), .val (.ref a2), .val (.int (4 : Int32))] [(.int (4 : Int32)), (.ref c1), (.ref a1)])) (fun t k => ?_) ?_
  · show Steps p.tables e below (T294.setTop (mkF m 15 #[.val (.ref a1), .val (.ref a2), .val (.int (4 : Int32))] [(.ref c1), (.ref a1)])) _
    refine XS.iloadN X294.here hx rfl (hb hby d4_15) rfl ?_
    exact k
  obtain ⟨cl295, Ar295, q295, S295, M295, Ha295, G295⟩ := id Q290
  have hin295 : ¬ ((4 : Int32) < 0 ∨ cl295.slots.size ≤ ((4 : Int32)).toNatClampNeg) := inb_of S295 ⟨by decide, by decide⟩
  refine own_go (A := T294.setTop (mkF m 16 #[.val (.ref a1), .val (.ref a2), .val (.int (4 : Int32))] [(.int (4 : Int32)), (.ref c1), (.ref a1)])) (X294.iaload hx (j := (4 : Int32)) (v := (.int u4)) (by rw [e294]; exact Ar295.1) (State.isArrayOf_alike hZ.alike Ar295.2.1) Ar295.2.2 hin295 (Has.at Ha295 hin295 rfl) (g := (mkF m 16 #[.val (.ref a1), .val (.ref a2), .val (.int (4 : Int32))] [(.int (4 : Int32)), (.ref c1), (.ref a1)])) rfl rfl (hb hby d4_16)) ?_
  refine own_go (A := T294.setTop (mkF m 17 #[.val (.ref a1), .val (.ref a2), .val (.int (4 : Int32))] [(.int u4), (.ref a1)])) (B := T294.setTop (mkF m 18 #[.val (.ref a1), .val (.ref a2), .val (.int (4 : Int32))] [(.ref a2), (.int u4), (.ref a1)])) (fun t k => ?_) ?_
  · show Steps p.tables e below (T294.setTop (mkF m 17 #[.val (.ref a1), .val (.ref a2), .val (.int (4 : Int32))] [(.int u4), (.ref a1)])) _
    refine XS.aloadN X294.here hx rfl (hb hby d4_17) rfl rfl ?_
    exact k
  obtain ⟨T296, X296, e296, st296⟩ := getF X294 hx hZ hown (host := "") (Or.inl (hw _ (List.mem_of_getElem? (i := 12) rfl))) Via.refl e294 Q289 (g := (mkF m 18 #[.val (.ref a1), .val (.ref a2), .val (.int (4 : Int32))] [(.ref a2), (.int u4), (.ref a1)])) rfl rfl (hb hby d4_18)
  refine own_go st296 ?_
  refine own_go (A := T296.setTop (mkF m 21 #[.val (.ref a1), .val (.ref a2), .val (.int (4 : Int32))] [(.ref c2), (.int u4), (.ref a1)])) (B := T296.setTop (mkF m 22 #[.val (.ref a1), .val (.ref a2), .val (.int (4 : Int32))] [(.int (4 : Int32)), (.ref c2), (.int u4), (.ref a1)])) (fun t k => ?_) ?_
  · show Steps p.tables e below (T296.setTop (mkF m 21 #[.val (.ref a1), .val (.ref a2), .val (.int (4 : Int32))] [(.ref c2), (.int u4), (.ref a1)])) _
    refine XS.iloadN X296.here hx rfl (hb hby d4_21) rfl ?_
    exact k
  obtain ⟨cl297, Ar297, q297, S297, M297, Ha297, G297⟩ := id Q291
  have hin297 : ¬ ((4 : Int32) < 0 ∨ cl297.slots.size ≤ ((4 : Int32)).toNatClampNeg) := inb_of S297 ⟨by decide, by decide⟩
  refine own_go (A := T296.setTop (mkF m 22 #[.val (.ref a1), .val (.ref a2), .val (.int (4 : Int32))] [(.int (4 : Int32)), (.ref c2), (.int u4), (.ref a1)])) (X296.iaload hx (j := (4 : Int32)) (v := (.int v4)) (by rw [e296]; exact Ar297.1) (State.isArrayOf_alike hZ.alike Ar297.2.1) Ar297.2.2 hin297 (Has.at Ha297 hin297 rfl) (g := (mkF m 22 #[.val (.ref a1), .val (.ref a2), .val (.int (4 : Int32))] [(.int (4 : Int32)), (.ref c2), (.int u4), (.ref a1)])) rfl rfl (hb hby d4_22)) ?_
  obtain ⟨cq298, kq298, q298a, q298b, q298c⟩ := isOf hZ e296 Q286
  obtain ⟨_, _, ⟨T298, L298, k298, n298⟩, -, X298, ⟨Lc298, hQ298, l298, y298, z298⟩, st298⟩ := X296.virtualBack hx (y := (⟨"com/example/axiomwright/axiomwright/Arcs", "add", "(II)V"⟩ : MethodName)) (z := (⟨"com/example/axiomwright/axiomwright/Arcs", "add", "(II)V"⟩ : MethodName)) hown (mvT hZ (hw _ (List.mem_of_getElem? (i := 26) rfl))) (mvT hZ (hw _ (List.mem_of_getElem? (i := 15) rfl))) (notFace_of_selects (args := #[]) (mvT hZ (hw _ (List.mem_of_getElem? (i := 17) rfl)))) (mvT hZ (hw _ (List.mem_of_getElem? (i := 17) rfl))) (mvT hZ (hw _ (List.mem_of_getElem? (i := 16) rfl))) (by decide) (backOf (W := 0) (rm3 l Z a0 hw [] a1 u4 v4 (10 : Int32) b1 b2 k1 k2 [(.int x0), (.int x1), (.int x2), (.int x3), (.int x4), (.int x5), (.int u0), (.int u1), (.int u2), (.int u3), (.int x10), (.int x11), (.int x12), (.int x13), (.int x14), (.int x15)] [(.int y0), (.int y1), (.int y2), (.int y3), (.int y4), (.int y5), (.int v0), (.int v1), (.int v2), (.int v3), (.int y10), (.int y11), (.int y12), (.int y13), (.int y14), (.int y15)] T285.heap n0 Z285 Q286 U285_0n U285_1 U285_2 U285_3n U285_4n g_a1 g_b1 g_b2 ne_a1_b1 ne_a1_b2 ne_b1_b2 (by decide) (by decide) (by decide) (Nat.le_of_ble_eq_true rfl) (Nat.le_of_ble_eq_true rfl)) hZ (hw _ (List.mem_of_getElem? (i := 18) rfl)) (hw _ (List.mem_of_getElem? (i := 2) rfl)) (by decide) (by decide)) q298a q298c (g := (mkF m 23 #[.val (.ref a1), .val (.ref a2), .val (.int (4 : Int32))] [(.int v4), (.int u4), (.ref a1)])) rfl (by rw [hml]; rfl) (Steps.refl _) (argsL := [(.int u4), (.int v4)]) (rest := []) (lenOf pd_0 rfl) rfl (by show 2 * 0 + _ ≤ _; exact Nat.le_of_eq rfl) (hb hby d4_23) (fun _ _ => ⟨rfl, e296, (by decide : 0 + 0 ≤ _), (by decide : 0 + 0 ≤ _)⟩)
  dsimp only [Pt.U, Pt.locs, Pt.cells, Pt.slots] at X298 l298 y298 z298 st298 hQ298
  subst l298 y298 z298
  obtain ⟨rfl, Nq298, Kq298, U298_0, U298_1, U298_2, U298_3, U298_4⟩ := hQ298
  have Q299 : Exa Z T298.heap a1 "com/example/axiomwright/axiomwright/Arcs" := Q286.keep Kq298
  have Q300 : Fld Z T298.heap a2 "com/example/axiomwright/axiomwright/Arcs" "size" "I" (.int (10 : Int32)) := Q287.keep Kq298 (ninS ne_a2_a1 (ninS ne_a2_b1 (ninS ne_a2_b2 nin0)))
  have Q301 : Fld Z T298.heap a2 "com/example/axiomwright/axiomwright/Arcs" "from" "[I" (.ref c1) := Q288.keep Kq298 (ninS ne_a2_a1 (ninS ne_a2_b1 (ninS ne_a2_b2 nin0)))
  have Q302 : Fld Z T298.heap a2 "com/example/axiomwright/axiomwright/Arcs" "to" "[I" (.ref c2) := Q289.keep Kq298 (ninS ne_a2_a1 (ninS ne_a2_b1 (ninS ne_a2_b2 nin0)))
  have Q303 : Arv Z T298.heap c1 j1 .int (16 : Int32) [(.int u0), (.int u1), (.int u2), (.int u3), (.int u4), (.int u5), (.int u6), (.int u7), (.int u8), (.int u9), (.int u10), (.int u11), (.int u12), (.int u13), (.int u14), (.int u15)] (.int (0 : Int32)) := Q290.keep Kq298 (ninS ne_c1_a1 (ninS ne_c1_b1 (ninS ne_c1_b2 nin0)))
  have Q304 : Arv Z T298.heap c2 j2 .int (16 : Int32) [(.int v0), (.int v1), (.int v2), (.int v3), (.int v4), (.int v5), (.int v6), (.int v7), (.int v8), (.int v9), (.int v10), (.int v11), (.int v12), (.int v13), (.int v14), (.int v15)] (.int (0 : Int32)) := Q291.keep Kq298 (ninS ne_c2_a1 (ninS ne_c2_b1 (ninS ne_c2_b2 nin0)))
  have U298_0n : Fld Z T298.heap a1 "com/example/axiomwright/axiomwright/Arcs" "size" "I" (.int (11 : Int32)) := U298_0
  have U298_3n : Arv Z T298.heap b1 k1 .int (16 : Int32) [(.int x0), (.int x1), (.int x2), (.int x3), (.int x4), (.int x5), (.int u0), (.int u1), (.int u2), (.int u3), (.int u4), (.int x11), (.int x12), (.int x13), (.int x14), (.int x15)] (.int (0 : Int32)) := U298_3
  have U298_4n : Arv Z T298.heap b2 k2 .int (16 : Int32) [(.int y0), (.int y1), (.int y2), (.int y3), (.int y4), (.int y5), (.int v0), (.int v1), (.int v2), (.int v3), (.int v4), (.int y11), (.int y12), (.int y13), (.int y14), (.int y15)] (.int (0 : Int32)) := U298_4
  have Z298 : n0 ≤ T298.heap.size := Nat.le_trans Z285 Kq298.1
  have K298 : Keep h0 T298.heap [a1, b1, b2] := K285.trans Kq298 (allS (Or.inl (List.mem_of_getElem? (i := 0) rfl)) (allS (Or.inl (List.mem_of_getElem? (i := 1) rfl)) (allS (Or.inl (List.mem_of_getElem? (i := 2) rfl)) all0)))
  have N298 := Fr.app N285 Nq298
  refine own_go (A := _) (B := T298.setTop (mkF m 26 #[.val (.ref a1), .val (.ref a2), .val (.int (4 : Int32))] [])) (fun t k => st298.trans k) ?_
  refine own_go (A := T298.setTop (mkF m 26 #[.val (.ref a1), .val (.ref a2), .val (.int (4 : Int32))] [])) (B := T298.setTop (mkF m 4 #[.val (.ref a1), .val (.ref a2), .val (.int (5 : Int32))] [(.ref a2), (.int (5 : Int32))])) (fun t k => ?_) ?_
  · show Steps p.tables e below (T298.setTop (mkF m 26 #[.val (.ref a1), .val (.ref a2), .val (.int (4 : Int32))] [])) _
    refine XS.iinc X298.here hx rfl (hb hby d4_26) rfl (l' := #[.val (.ref a1), .val (.ref a2), .val (.int (5 : Int32))]) rfl ?_
    show Steps p.tables e below (T298.setTop (mkF m 29 #[.val (.ref a1), .val (.ref a2), .val (.int (5 : Int32))] [])) _
    refine XS.goto X298.here hx rfl (pc0 := 29) (pc' := 2) rfl (hb hby d4_29) (by decide) (by decide) ?_
    show Steps p.tables e below (T298.setTop (mkF m 2 #[.val (.ref a1), .val (.ref a2), .val (.int (5 : Int32))] [])) _
    refine XS.iloadN X298.here hx rfl (hb hby d4_2) rfl ?_
    show Steps p.tables e below (T298.setTop (mkF m 3 #[.val (.ref a1), .val (.ref a2), .val (.int (5 : Int32))] [(.int (5 : Int32))])) _
    refine XS.aloadN X298.here hx rfl (hb hby d4_3) rfl rfl ?_
    exact k
  obtain ⟨T305, X305, e305, st305⟩ := getF X298 hx hZ hown (host := "") (Or.inl (hw _ (List.mem_of_getElem? (i := 19) rfl))) Via.refl rfl Q300 (g := (mkF m 4 #[.val (.ref a1), .val (.ref a2), .val (.int (5 : Int32))] [(.ref a2), (.int (5 : Int32))])) rfl rfl (hb hby d4_4)
  refine own_go st305 ?_
  refine own_go (A := T305.setTop (mkF m 7 #[.val (.ref a1), .val (.ref a2), .val (.int (5 : Int32))] [(.int (10 : Int32)), (.int (5 : Int32))])) (B := T305.setTop (mkF m 12 #[.val (.ref a1), .val (.ref a2), .val (.int (5 : Int32))] [(.ref a2), (.ref a1)])) (fun t k => ?_) ?_
  · show Steps p.tables e below (T305.setTop (mkF m 7 #[.val (.ref a1), .val (.ref a2), .val (.int (5 : Int32))] [(.int (10 : Int32)), (.int (5 : Int32))])) _
    refine XS.icmpNo X305.here hx rfl (hb hby d4_7) rfl (tlt (by decide : ((5 : Int32) < (10 : Int32)))).2.1 ?_
    show Steps p.tables e below (T305.setTop (mkF m 10 #[.val (.ref a1), .val (.ref a2), .val (.int (5 : Int32))] [])) _
    refine XS.aloadN X305.here hx rfl (hb hby d4_10) rfl rfl ?_
    show Steps p.tables e below (T305.setTop (mkF m 11 #[.val (.ref a1), .val (.ref a2), .val (.int (5 : Int32))] [(.ref a1)])) _
    refine XS.aloadN X305.here hx rfl (hb hby d4_11) rfl rfl ?_
    exact k
  obtain ⟨T307, X307, e307, st307⟩ := getF X305 hx hZ hown (host := "") (Or.inl (hw _ (List.mem_of_getElem? (i := 10) rfl))) Via.refl e305 Q301 (g := (mkF m 12 #[.val (.ref a1), .val (.ref a2), .val (.int (5 : Int32))] [(.ref a2), (.ref a1)])) rfl rfl (hb hby d4_12)
  refine own_go st307 ?_
  refine own_go (A := T307.setTop (mkF m 15 #[.val (.ref a1), .val (.ref a2), .val (.int (5 : Int32))] [(.ref c1), (.ref a1)])) (B := T307.setTop (mkF m 16 #[.val (.ref a1), .val (.ref a2), .val (.int (5 : Int32))] [(.int (5 : Int32)), (.ref c1), (.ref a1)])) (fun t k => ?_) ?_
  · show Steps p.tables e below (T307.setTop (mkF m 15 #[.val (.ref a1), .val (.ref a2), .val (.int (5 : Int32))] [(.ref c1), (.ref a1)])) _
    refine XS.iloadN X307.here hx rfl (hb hby d4_15) rfl ?_
    exact k
  obtain ⟨cl308, Ar308, q308, S308, M308, Ha308, G308⟩ := id Q303
  have hin308 : ¬ ((5 : Int32) < 0 ∨ cl308.slots.size ≤ ((5 : Int32)).toNatClampNeg) := inb_of S308 ⟨by decide, by decide⟩
  refine own_go (A := T307.setTop (mkF m 16 #[.val (.ref a1), .val (.ref a2), .val (.int (5 : Int32))] [(.int (5 : Int32)), (.ref c1), (.ref a1)])) (X307.iaload hx (j := (5 : Int32)) (v := (.int u5)) (by rw [e307]; exact Ar308.1) (State.isArrayOf_alike hZ.alike Ar308.2.1) Ar308.2.2 hin308 (Has.at Ha308 hin308 rfl) (g := (mkF m 16 #[.val (.ref a1), .val (.ref a2), .val (.int (5 : Int32))] [(.int (5 : Int32)), (.ref c1), (.ref a1)])) rfl rfl (hb hby d4_16)) ?_
  refine own_go (A := T307.setTop (mkF m 17 #[.val (.ref a1), .val (.ref a2), .val (.int (5 : Int32))] [(.int u5), (.ref a1)])) (B := T307.setTop (mkF m 18 #[.val (.ref a1), .val (.ref a2), .val (.int (5 : Int32))] [(.ref a2), (.int u5), (.ref a1)])) (fun t k => ?_) ?_
  · show Steps p.tables e below (T307.setTop (mkF m 17 #[.val (.ref a1), .val (.ref a2), .val (.int (5 : Int32))] [(.int u5), (.ref a1)])) _
    refine XS.aloadN X307.here hx rfl (hb hby d4_17) rfl rfl ?_
    exact k
  obtain ⟨T309, X309, e309, st309⟩ := getF X307 hx hZ hown (host := "") (Or.inl (hw _ (List.mem_of_getElem? (i := 12) rfl))) Via.refl e307 Q302 (g := (mkF m 18 #[.val (.ref a1), .val (.ref a2), .val (.int (5 : Int32))] [(.ref a2), (.int u5), (.ref a1)])) rfl rfl (hb hby d4_18)
  refine own_go st309 ?_
  refine own_go (A := T309.setTop (mkF m 21 #[.val (.ref a1), .val (.ref a2), .val (.int (5 : Int32))] [(.ref c2), (.int u5), (.ref a1)])) (B := T309.setTop (mkF m 22 #[.val (.ref a1), .val (.ref a2), .val (.int (5 : Int32))] [(.int (5 : Int32)), (.ref c2), (.int u5), (.ref a1)])) (fun t k => ?_) ?_
  · show Steps p.tables e below (T309.setTop (mkF m 21 #[.val (.ref a1), .val (.ref a2), .val (.int (5 : Int32))] [(.ref c2), (.int u5), (.ref a1)])) _
    refine XS.iloadN X309.here hx rfl (hb hby d4_21) rfl ?_
    exact k
  obtain ⟨cl310, Ar310, q310, S310, M310, Ha310, G310⟩ := id Q304
  have hin310 : ¬ ((5 : Int32) < 0 ∨ cl310.slots.size ≤ ((5 : Int32)).toNatClampNeg) := inb_of S310 ⟨by decide, by decide⟩
  refine own_go (A := T309.setTop (mkF m 22 #[.val (.ref a1), .val (.ref a2), .val (.int (5 : Int32))] [(.int (5 : Int32)), (.ref c2), (.int u5), (.ref a1)])) (X309.iaload hx (j := (5 : Int32)) (v := (.int v5)) (by rw [e309]; exact Ar310.1) (State.isArrayOf_alike hZ.alike Ar310.2.1) Ar310.2.2 hin310 (Has.at Ha310 hin310 rfl) (g := (mkF m 22 #[.val (.ref a1), .val (.ref a2), .val (.int (5 : Int32))] [(.int (5 : Int32)), (.ref c2), (.int u5), (.ref a1)])) rfl rfl (hb hby d4_22)) ?_
  obtain ⟨cq311, kq311, q311a, q311b, q311c⟩ := isOf hZ e309 Q299
  obtain ⟨_, _, ⟨T311, L311, k311, n311⟩, -, X311, ⟨Lc311, hQ311, l311, y311, z311⟩, st311⟩ := X309.virtualBack hx (y := (⟨"com/example/axiomwright/axiomwright/Arcs", "add", "(II)V"⟩ : MethodName)) (z := (⟨"com/example/axiomwright/axiomwright/Arcs", "add", "(II)V"⟩ : MethodName)) hown (mvT hZ (hw _ (List.mem_of_getElem? (i := 26) rfl))) (mvT hZ (hw _ (List.mem_of_getElem? (i := 15) rfl))) (notFace_of_selects (args := #[]) (mvT hZ (hw _ (List.mem_of_getElem? (i := 17) rfl)))) (mvT hZ (hw _ (List.mem_of_getElem? (i := 17) rfl))) (mvT hZ (hw _ (List.mem_of_getElem? (i := 16) rfl))) (by decide) (backOf (W := 0) (rm3 l Z a0 hw [] a1 u5 v5 (11 : Int32) b1 b2 k1 k2 [(.int x0), (.int x1), (.int x2), (.int x3), (.int x4), (.int x5), (.int u0), (.int u1), (.int u2), (.int u3), (.int u4), (.int x11), (.int x12), (.int x13), (.int x14), (.int x15)] [(.int y0), (.int y1), (.int y2), (.int y3), (.int y4), (.int y5), (.int v0), (.int v1), (.int v2), (.int v3), (.int v4), (.int y11), (.int y12), (.int y13), (.int y14), (.int y15)] T298.heap n0 Z298 Q299 U298_0n U298_1 U298_2 U298_3n U298_4n g_a1 g_b1 g_b2 ne_a1_b1 ne_a1_b2 ne_b1_b2 (by decide) (by decide) (by decide) (Nat.le_of_ble_eq_true rfl) (Nat.le_of_ble_eq_true rfl)) hZ (hw _ (List.mem_of_getElem? (i := 18) rfl)) (hw _ (List.mem_of_getElem? (i := 2) rfl)) (by decide) (by decide)) q311a q311c (g := (mkF m 23 #[.val (.ref a1), .val (.ref a2), .val (.int (5 : Int32))] [(.int v5), (.int u5), (.ref a1)])) rfl (by rw [hml]; rfl) (Steps.refl _) (argsL := [(.int u5), (.int v5)]) (rest := []) (lenOf pd_0 rfl) rfl (by show 2 * 0 + _ ≤ _; exact Nat.le_of_eq rfl) (hb hby d4_23) (fun _ _ => ⟨rfl, e309, (by decide : 0 + 0 ≤ _), (by decide : 0 + 0 ≤ _)⟩)
  dsimp only [Pt.U, Pt.locs, Pt.cells, Pt.slots] at X311 l311 y311 z311 st311 hQ311
  subst l311 y311 z311
  obtain ⟨rfl, Nq311, Kq311, U311_0, U311_1, U311_2, U311_3, U311_4⟩ := hQ311
  have Q312 : Exa Z T311.heap a1 "com/example/axiomwright/axiomwright/Arcs" := Q299.keep Kq311
  have Q313 : Fld Z T311.heap a2 "com/example/axiomwright/axiomwright/Arcs" "size" "I" (.int (10 : Int32)) := Q300.keep Kq311 (ninS ne_a2_a1 (ninS ne_a2_b1 (ninS ne_a2_b2 nin0)))
  have Q314 : Fld Z T311.heap a2 "com/example/axiomwright/axiomwright/Arcs" "from" "[I" (.ref c1) := Q301.keep Kq311 (ninS ne_a2_a1 (ninS ne_a2_b1 (ninS ne_a2_b2 nin0)))
  have Q315 : Fld Z T311.heap a2 "com/example/axiomwright/axiomwright/Arcs" "to" "[I" (.ref c2) := Q302.keep Kq311 (ninS ne_a2_a1 (ninS ne_a2_b1 (ninS ne_a2_b2 nin0)))
  have Q316 : Arv Z T311.heap c1 j1 .int (16 : Int32) [(.int u0), (.int u1), (.int u2), (.int u3), (.int u4), (.int u5), (.int u6), (.int u7), (.int u8), (.int u9), (.int u10), (.int u11), (.int u12), (.int u13), (.int u14), (.int u15)] (.int (0 : Int32)) := Q303.keep Kq311 (ninS ne_c1_a1 (ninS ne_c1_b1 (ninS ne_c1_b2 nin0)))
  have Q317 : Arv Z T311.heap c2 j2 .int (16 : Int32) [(.int v0), (.int v1), (.int v2), (.int v3), (.int v4), (.int v5), (.int v6), (.int v7), (.int v8), (.int v9), (.int v10), (.int v11), (.int v12), (.int v13), (.int v14), (.int v15)] (.int (0 : Int32)) := Q304.keep Kq311 (ninS ne_c2_a1 (ninS ne_c2_b1 (ninS ne_c2_b2 nin0)))
  have U311_0n : Fld Z T311.heap a1 "com/example/axiomwright/axiomwright/Arcs" "size" "I" (.int (12 : Int32)) := U311_0
  have U311_3n : Arv Z T311.heap b1 k1 .int (16 : Int32) [(.int x0), (.int x1), (.int x2), (.int x3), (.int x4), (.int x5), (.int u0), (.int u1), (.int u2), (.int u3), (.int u4), (.int u5), (.int x12), (.int x13), (.int x14), (.int x15)] (.int (0 : Int32)) := U311_3
  have U311_4n : Arv Z T311.heap b2 k2 .int (16 : Int32) [(.int y0), (.int y1), (.int y2), (.int y3), (.int y4), (.int y5), (.int v0), (.int v1), (.int v2), (.int v3), (.int v4), (.int v5), (.int y12), (.int y13), (.int y14), (.int y15)] (.int (0 : Int32)) := U311_4
  have Z311 : n0 ≤ T311.heap.size := Nat.le_trans Z298 Kq311.1
  have K311 : Keep h0 T311.heap [a1, b1, b2] := K298.trans Kq311 (allS (Or.inl (List.mem_of_getElem? (i := 0) rfl)) (allS (Or.inl (List.mem_of_getElem? (i := 1) rfl)) (allS (Or.inl (List.mem_of_getElem? (i := 2) rfl)) all0)))
  have N311 := Fr.app N298 Nq311
  refine own_go (A := _) (B := T311.setTop (mkF m 26 #[.val (.ref a1), .val (.ref a2), .val (.int (5 : Int32))] [])) (fun t k => st311.trans k) ?_
  refine own_go (A := T311.setTop (mkF m 26 #[.val (.ref a1), .val (.ref a2), .val (.int (5 : Int32))] [])) (B := T311.setTop (mkF m 4 #[.val (.ref a1), .val (.ref a2), .val (.int (6 : Int32))] [(.ref a2), (.int (6 : Int32))])) (fun t k => ?_) ?_
  · show Steps p.tables e below (T311.setTop (mkF m 26 #[.val (.ref a1), .val (.ref a2), .val (.int (5 : Int32))] [])) _
    refine XS.iinc X311.here hx rfl (hb hby d4_26) rfl (l' := #[.val (.ref a1), .val (.ref a2), .val (.int (6 : Int32))]) rfl ?_
    show Steps p.tables e below (T311.setTop (mkF m 29 #[.val (.ref a1), .val (.ref a2), .val (.int (6 : Int32))] [])) _
    refine XS.goto X311.here hx rfl (pc0 := 29) (pc' := 2) rfl (hb hby d4_29) (by decide) (by decide) ?_
    show Steps p.tables e below (T311.setTop (mkF m 2 #[.val (.ref a1), .val (.ref a2), .val (.int (6 : Int32))] [])) _
    refine XS.iloadN X311.here hx rfl (hb hby d4_2) rfl ?_
    show Steps p.tables e below (T311.setTop (mkF m 3 #[.val (.ref a1), .val (.ref a2), .val (.int (6 : Int32))] [(.int (6 : Int32))])) _
    refine XS.aloadN X311.here hx rfl (hb hby d4_3) rfl rfl ?_
    exact k
  obtain ⟨T318, X318, e318, st318⟩ := getF X311 hx hZ hown (host := "") (Or.inl (hw _ (List.mem_of_getElem? (i := 19) rfl))) Via.refl rfl Q313 (g := (mkF m 4 #[.val (.ref a1), .val (.ref a2), .val (.int (6 : Int32))] [(.ref a2), (.int (6 : Int32))])) rfl rfl (hb hby d4_4)
  refine own_go st318 ?_
  refine own_go (A := T318.setTop (mkF m 7 #[.val (.ref a1), .val (.ref a2), .val (.int (6 : Int32))] [(.int (10 : Int32)), (.int (6 : Int32))])) (B := T318.setTop (mkF m 12 #[.val (.ref a1), .val (.ref a2), .val (.int (6 : Int32))] [(.ref a2), (.ref a1)])) (fun t k => ?_) ?_
  · show Steps p.tables e below (T318.setTop (mkF m 7 #[.val (.ref a1), .val (.ref a2), .val (.int (6 : Int32))] [(.int (10 : Int32)), (.int (6 : Int32))])) _
    refine XS.icmpNo X318.here hx rfl (hb hby d4_7) rfl (tlt (by decide : ((6 : Int32) < (10 : Int32)))).2.1 ?_
    show Steps p.tables e below (T318.setTop (mkF m 10 #[.val (.ref a1), .val (.ref a2), .val (.int (6 : Int32))] [])) _
    refine XS.aloadN X318.here hx rfl (hb hby d4_10) rfl rfl ?_
    show Steps p.tables e below (T318.setTop (mkF m 11 #[.val (.ref a1), .val (.ref a2), .val (.int (6 : Int32))] [(.ref a1)])) _
    refine XS.aloadN X318.here hx rfl (hb hby d4_11) rfl rfl ?_
    exact k
  obtain ⟨T320, X320, e320, st320⟩ := getF X318 hx hZ hown (host := "") (Or.inl (hw _ (List.mem_of_getElem? (i := 10) rfl))) Via.refl e318 Q314 (g := (mkF m 12 #[.val (.ref a1), .val (.ref a2), .val (.int (6 : Int32))] [(.ref a2), (.ref a1)])) rfl rfl (hb hby d4_12)
  refine own_go st320 ?_
  refine own_go (A := T320.setTop (mkF m 15 #[.val (.ref a1), .val (.ref a2), .val (.int (6 : Int32))] [(.ref c1), (.ref a1)])) (B := T320.setTop (mkF m 16 #[.val (.ref a1), .val (.ref a2), .val (.int (6 : Int32))] [(.int (6 : Int32)), (.ref c1), (.ref a1)])) (fun t k => ?_) ?_
  · show Steps p.tables e below (T320.setTop (mkF m 15 #[.val (.ref a1), .val (.ref a2), .val (.int (6 : Int32))] [(.ref c1), (.ref a1)])) _
    refine XS.iloadN X320.here hx rfl (hb hby d4_15) rfl ?_
    exact k
  obtain ⟨cl321, Ar321, q321, S321, M321, Ha321, G321⟩ := id Q316
  have hin321 : ¬ ((6 : Int32) < 0 ∨ cl321.slots.size ≤ ((6 : Int32)).toNatClampNeg) := inb_of S321 ⟨by decide, by decide⟩
  refine own_go (A := T320.setTop (mkF m 16 #[.val (.ref a1), .val (.ref a2), .val (.int (6 : Int32))] [(.int (6 : Int32)), (.ref c1), (.ref a1)])) (X320.iaload hx (j := (6 : Int32)) (v := (.int u6)) (by rw [e320]; exact Ar321.1) (State.isArrayOf_alike hZ.alike Ar321.2.1) Ar321.2.2 hin321 (Has.at Ha321 hin321 rfl) (g := (mkF m 16 #[.val (.ref a1), .val (.ref a2), .val (.int (6 : Int32))] [(.int (6 : Int32)), (.ref c1), (.ref a1)])) rfl rfl (hb hby d4_16)) ?_
  refine own_go (A := T320.setTop (mkF m 17 #[.val (.ref a1), .val (.ref a2), .val (.int (6 : Int32))] [(.int u6), (.ref a1)])) (B := T320.setTop (mkF m 18 #[.val (.ref a1), .val (.ref a2), .val (.int (6 : Int32))] [(.ref a2), (.int u6), (.ref a1)])) (fun t k => ?_) ?_
  · show Steps p.tables e below (T320.setTop (mkF m 17 #[.val (.ref a1), .val (.ref a2), .val (.int (6 : Int32))] [(.int u6), (.ref a1)])) _
    refine XS.aloadN X320.here hx rfl (hb hby d4_17) rfl rfl ?_
    exact k
  obtain ⟨T322, X322, e322, st322⟩ := getF X320 hx hZ hown (host := "") (Or.inl (hw _ (List.mem_of_getElem? (i := 12) rfl))) Via.refl e320 Q315 (g := (mkF m 18 #[.val (.ref a1), .val (.ref a2), .val (.int (6 : Int32))] [(.ref a2), (.int u6), (.ref a1)])) rfl rfl (hb hby d4_18)
  refine own_go st322 ?_
  refine own_go (A := T322.setTop (mkF m 21 #[.val (.ref a1), .val (.ref a2), .val (.int (6 : Int32))] [(.ref c2), (.int u6), (.ref a1)])) (B := T322.setTop (mkF m 22 #[.val (.ref a1), .val (.ref a2), .val (.int (6 : Int32))] [(.int (6 : Int32)), (.ref c2), (.int u6), (.ref a1)])) (fun t k => ?_) ?_
  · show Steps p.tables e below (T322.setTop (mkF m 21 #[.val (.ref a1), .val (.ref a2), .val (.int (6 : Int32))] [(.ref c2), (.int u6), (.ref a1)])) _
    refine XS.iloadN X322.here hx rfl (hb hby d4_21) rfl ?_
    exact k
  obtain ⟨cl323, Ar323, q323, S323, M323, Ha323, G323⟩ := id Q317
  have hin323 : ¬ ((6 : Int32) < 0 ∨ cl323.slots.size ≤ ((6 : Int32)).toNatClampNeg) := inb_of S323 ⟨by decide, by decide⟩
  refine own_go (A := T322.setTop (mkF m 22 #[.val (.ref a1), .val (.ref a2), .val (.int (6 : Int32))] [(.int (6 : Int32)), (.ref c2), (.int u6), (.ref a1)])) (X322.iaload hx (j := (6 : Int32)) (v := (.int v6)) (by rw [e322]; exact Ar323.1) (State.isArrayOf_alike hZ.alike Ar323.2.1) Ar323.2.2 hin323 (Has.at Ha323 hin323 rfl) (g := (mkF m 22 #[.val (.ref a1), .val (.ref a2), .val (.int (6 : Int32))] [(.int (6 : Int32)), (.ref c2), (.int u6), (.ref a1)])) rfl rfl (hb hby d4_22)) ?_
  obtain ⟨cq324, kq324, q324a, q324b, q324c⟩ := isOf hZ e322 Q312
  obtain ⟨_, _, ⟨T324, L324, k324, n324⟩, -, X324, ⟨Lc324, hQ324, l324, y324, z324⟩, st324⟩ := X322.virtualBack hx (y := (⟨"com/example/axiomwright/axiomwright/Arcs", "add", "(II)V"⟩ : MethodName)) (z := (⟨"com/example/axiomwright/axiomwright/Arcs", "add", "(II)V"⟩ : MethodName)) hown (mvT hZ (hw _ (List.mem_of_getElem? (i := 26) rfl))) (mvT hZ (hw _ (List.mem_of_getElem? (i := 15) rfl))) (notFace_of_selects (args := #[]) (mvT hZ (hw _ (List.mem_of_getElem? (i := 17) rfl)))) (mvT hZ (hw _ (List.mem_of_getElem? (i := 17) rfl))) (mvT hZ (hw _ (List.mem_of_getElem? (i := 16) rfl))) (by decide) (backOf (W := 0) (rm3 l Z a0 hw [] a1 u6 v6 (12 : Int32) b1 b2 k1 k2 [(.int x0), (.int x1), (.int x2), (.int x3), (.int x4), (.int x5), (.int u0), (.int u1), (.int u2), (.int u3), (.int u4), (.int u5), (.int x12), (.int x13), (.int x14), (.int x15)] [(.int y0), (.int y1), (.int y2), (.int y3), (.int y4), (.int y5), (.int v0), (.int v1), (.int v2), (.int v3), (.int v4), (.int v5), (.int y12), (.int y13), (.int y14), (.int y15)] T311.heap n0 Z311 Q312 U311_0n U311_1 U311_2 U311_3n U311_4n g_a1 g_b1 g_b2 ne_a1_b1 ne_a1_b2 ne_b1_b2 (by decide) (by decide) (by decide) (Nat.le_of_ble_eq_true rfl) (Nat.le_of_ble_eq_true rfl)) hZ (hw _ (List.mem_of_getElem? (i := 18) rfl)) (hw _ (List.mem_of_getElem? (i := 2) rfl)) (by decide) (by decide)) q324a q324c (g := (mkF m 23 #[.val (.ref a1), .val (.ref a2), .val (.int (6 : Int32))] [(.int v6), (.int u6), (.ref a1)])) rfl (by rw [hml]; rfl) (Steps.refl _) (argsL := [(.int u6), (.int v6)]) (rest := []) (lenOf pd_0 rfl) rfl (by show 2 * 0 + _ ≤ _; exact Nat.le_of_eq rfl) (hb hby d4_23) (fun _ _ => ⟨rfl, e322, (by decide : 0 + 0 ≤ _), (by decide : 0 + 0 ≤ _)⟩)
  dsimp only [Pt.U, Pt.locs, Pt.cells, Pt.slots] at X324 l324 y324 z324 st324 hQ324
  subst l324 y324 z324
  obtain ⟨rfl, Nq324, Kq324, U324_0, U324_1, U324_2, U324_3, U324_4⟩ := hQ324
  have Q325 : Exa Z T324.heap a1 "com/example/axiomwright/axiomwright/Arcs" := Q312.keep Kq324
  have Q326 : Fld Z T324.heap a2 "com/example/axiomwright/axiomwright/Arcs" "size" "I" (.int (10 : Int32)) := Q313.keep Kq324 (ninS ne_a2_a1 (ninS ne_a2_b1 (ninS ne_a2_b2 nin0)))
  have Q327 : Fld Z T324.heap a2 "com/example/axiomwright/axiomwright/Arcs" "from" "[I" (.ref c1) := Q314.keep Kq324 (ninS ne_a2_a1 (ninS ne_a2_b1 (ninS ne_a2_b2 nin0)))
  have Q328 : Fld Z T324.heap a2 "com/example/axiomwright/axiomwright/Arcs" "to" "[I" (.ref c2) := Q315.keep Kq324 (ninS ne_a2_a1 (ninS ne_a2_b1 (ninS ne_a2_b2 nin0)))
  have Q329 : Arv Z T324.heap c1 j1 .int (16 : Int32) [(.int u0), (.int u1), (.int u2), (.int u3), (.int u4), (.int u5), (.int u6), (.int u7), (.int u8), (.int u9), (.int u10), (.int u11), (.int u12), (.int u13), (.int u14), (.int u15)] (.int (0 : Int32)) := Q316.keep Kq324 (ninS ne_c1_a1 (ninS ne_c1_b1 (ninS ne_c1_b2 nin0)))
  have Q330 : Arv Z T324.heap c2 j2 .int (16 : Int32) [(.int v0), (.int v1), (.int v2), (.int v3), (.int v4), (.int v5), (.int v6), (.int v7), (.int v8), (.int v9), (.int v10), (.int v11), (.int v12), (.int v13), (.int v14), (.int v15)] (.int (0 : Int32)) := Q317.keep Kq324 (ninS ne_c2_a1 (ninS ne_c2_b1 (ninS ne_c2_b2 nin0)))
  have U324_0n : Fld Z T324.heap a1 "com/example/axiomwright/axiomwright/Arcs" "size" "I" (.int (13 : Int32)) := U324_0
  have U324_3n : Arv Z T324.heap b1 k1 .int (16 : Int32) [(.int x0), (.int x1), (.int x2), (.int x3), (.int x4), (.int x5), (.int u0), (.int u1), (.int u2), (.int u3), (.int u4), (.int u5), (.int u6), (.int x13), (.int x14), (.int x15)] (.int (0 : Int32)) := U324_3
  have U324_4n : Arv Z T324.heap b2 k2 .int (16 : Int32) [(.int y0), (.int y1), (.int y2), (.int y3), (.int y4), (.int y5), (.int v0), (.int v1), (.int v2), (.int v3), (.int v4), (.int v5), (.int v6), (.int y13), (.int y14), (.int y15)] (.int (0 : Int32)) := U324_4
  have Z324 : n0 ≤ T324.heap.size := Nat.le_trans Z311 Kq324.1
  have K324 : Keep h0 T324.heap [a1, b1, b2] := K311.trans Kq324 (allS (Or.inl (List.mem_of_getElem? (i := 0) rfl)) (allS (Or.inl (List.mem_of_getElem? (i := 1) rfl)) (allS (Or.inl (List.mem_of_getElem? (i := 2) rfl)) all0)))
  have N324 := Fr.app N311 Nq324
  refine own_go (A := _) (B := T324.setTop (mkF m 26 #[.val (.ref a1), .val (.ref a2), .val (.int (6 : Int32))] [])) (fun t k => st324.trans k) ?_
  refine own_go (A := T324.setTop (mkF m 26 #[.val (.ref a1), .val (.ref a2), .val (.int (6 : Int32))] [])) (B := T324.setTop (mkF m 4 #[.val (.ref a1), .val (.ref a2), .val (.int (7 : Int32))] [(.ref a2), (.int (7 : Int32))])) (fun t k => ?_) ?_
  · show Steps p.tables e below (T324.setTop (mkF m 26 #[.val (.ref a1), .val (.ref a2), .val (.int (6 : Int32))] [])) _
    refine XS.iinc X324.here hx rfl (hb hby d4_26) rfl (l' := #[.val (.ref a1), .val (.ref a2), .val (.int (7 : Int32))]) rfl ?_
    show Steps p.tables e below (T324.setTop (mkF m 29 #[.val (.ref a1), .val (.ref a2), .val (.int (7 : Int32))] [])) _
    refine XS.goto X324.here hx rfl (pc0 := 29) (pc' := 2) rfl (hb hby d4_29) (by decide) (by decide) ?_
    show Steps p.tables e below (T324.setTop (mkF m 2 #[.val (.ref a1), .val (.ref a2), .val (.int (7 : Int32))] [])) _
    refine XS.iloadN X324.here hx rfl (hb hby d4_2) rfl ?_
    show Steps p.tables e below (T324.setTop (mkF m 3 #[.val (.ref a1), .val (.ref a2), .val (.int (7 : Int32))] [(.int (7 : Int32))])) _
    refine XS.aloadN X324.here hx rfl (hb hby d4_3) rfl rfl ?_
    exact k
  obtain ⟨T331, X331, e331, st331⟩ := getF X324 hx hZ hown (host := "") (Or.inl (hw _ (List.mem_of_getElem? (i := 19) rfl))) Via.refl rfl Q326 (g := (mkF m 4 #[.val (.ref a1), .val (.ref a2), .val (.int (7 : Int32))] [(.ref a2), (.int (7 : Int32))])) rfl rfl (hb hby d4_4)
  refine own_go st331 ?_
  refine own_go (A := T331.setTop (mkF m 7 #[.val (.ref a1), .val (.ref a2), .val (.int (7 : Int32))] [(.int (10 : Int32)), (.int (7 : Int32))])) (B := T331.setTop (mkF m 12 #[.val (.ref a1), .val (.ref a2), .val (.int (7 : Int32))] [(.ref a2), (.ref a1)])) (fun t k => ?_) ?_
  · show Steps p.tables e below (T331.setTop (mkF m 7 #[.val (.ref a1), .val (.ref a2), .val (.int (7 : Int32))] [(.int (10 : Int32)), (.int (7 : Int32))])) _
    refine XS.icmpNo X331.here hx rfl (hb hby d4_7) rfl (tlt (by decide : ((7 : Int32) < (10 : Int32)))).2.1 ?_
    show Steps p.tables e below (T331.setTop (mkF m 10 #[.val (.ref a1), .val (.ref a2), .val (.int (7 : Int32))] [])) _
    refine XS.aloadN X331.here hx rfl (hb hby d4_10) rfl rfl ?_
    show Steps p.tables e below (T331.setTop (mkF m 11 #[.val (.ref a1), .val (.ref a2), .val (.int (7 : Int32))] [(.ref a1)])) _
    refine XS.aloadN X331.here hx rfl (hb hby d4_11) rfl rfl ?_
    exact k
  obtain ⟨T333, X333, e333, st333⟩ := getF X331 hx hZ hown (host := "") (Or.inl (hw _ (List.mem_of_getElem? (i := 10) rfl))) Via.refl e331 Q327 (g := (mkF m 12 #[.val (.ref a1), .val (.ref a2), .val (.int (7 : Int32))] [(.ref a2), (.ref a1)])) rfl rfl (hb hby d4_12)
  refine own_go st333 ?_
  refine own_go (A := T333.setTop (mkF m 15 #[.val (.ref a1), .val (.ref a2), .val (.int (7 : Int32))] [(.ref c1), (.ref a1)])) (B := T333.setTop (mkF m 16 #[.val (.ref a1), .val (.ref a2), .val (.int (7 : Int32))] [(.int (7 : Int32)), (.ref c1), (.ref a1)])) (fun t k => ?_) ?_
  · show Steps p.tables e below (T333.setTop (mkF m 15 #[.val (.ref a1), .val (.ref a2), .val (.int (7 : Int32))] [(.ref c1), (.ref a1)])) _
    refine XS.iloadN X333.here hx rfl (hb hby d4_15) rfl ?_
    exact k
  obtain ⟨cl334, Ar334, q334, S334, M334, Ha334, G334⟩ := id Q329
  have hin334 : ¬ ((7 : Int32) < 0 ∨ cl334.slots.size ≤ ((7 : Int32)).toNatClampNeg) := inb_of S334 ⟨by decide, by decide⟩
  refine own_go (A := T333.setTop (mkF m 16 #[.val (.ref a1), .val (.ref a2), .val (.int (7 : Int32))] [(.int (7 : Int32)), (.ref c1), (.ref a1)])) (X333.iaload hx (j := (7 : Int32)) (v := (.int u7)) (by rw [e333]; exact Ar334.1) (State.isArrayOf_alike hZ.alike Ar334.2.1) Ar334.2.2 hin334 (Has.at Ha334 hin334 rfl) (g := (mkF m 16 #[.val (.ref a1), .val (.ref a2), .val (.int (7 : Int32))] [(.int (7 : Int32)), (.ref c1), (.ref a1)])) rfl rfl (hb hby d4_16)) ?_
  refine own_go (A := T333.setTop (mkF m 17 #[.val (.ref a1), .val (.ref a2), .val (.int (7 : Int32))] [(.int u7), (.ref a1)])) (B := T333.setTop (mkF m 18 #[.val (.ref a1), .val (.ref a2), .val (.int (7 : Int32))] [(.ref a2), (.int u7), (.ref a1)])) (fun t k => ?_) ?_
  · show Steps p.tables e below (T333.setTop (mkF m 17 #[.val (.ref a1), .val (.ref a2), .val (.int (7 : Int32))] [(.int u7), (.ref a1)])) _
    refine XS.aloadN X333.here hx rfl (hb hby d4_17) rfl rfl ?_
    exact k
  obtain ⟨T335, X335, e335, st335⟩ := getF X333 hx hZ hown (host := "") (Or.inl (hw _ (List.mem_of_getElem? (i := 12) rfl))) Via.refl e333 Q328 (g := (mkF m 18 #[.val (.ref a1), .val (.ref a2), .val (.int (7 : Int32))] [(.ref a2), (.int u7), (.ref a1)])) rfl rfl (hb hby d4_18)
  refine own_go st335 ?_
  refine own_go (A := T335.setTop (mkF m 21 #[.val (.ref a1), .val (.ref a2), .val (.int (7 : Int32))] [(.ref c2), (.int u7), (.ref a1)])) (B := T335.setTop (mkF m 22 #[.val (.ref a1), .val (.ref a2), .val (.int (7 : Int32))] [(.int (7 : Int32)), (.ref c2), (.int u7), (.ref a1)])) (fun t k => ?_) ?_
  · show Steps p.tables e below (T335.setTop (mkF m 21 #[.val (.ref a1), .val (.ref a2), .val (.int (7 : Int32))] [(.ref c2), (.int u7), (.ref a1)])) _
    refine XS.iloadN X335.here hx rfl (hb hby d4_21) rfl ?_
    exact k
  obtain ⟨cl336, Ar336, q336, S336, M336, Ha336, G336⟩ := id Q330
  have hin336 : ¬ ((7 : Int32) < 0 ∨ cl336.slots.size ≤ ((7 : Int32)).toNatClampNeg) := inb_of S336 ⟨by decide, by decide⟩
  refine own_go (A := T335.setTop (mkF m 22 #[.val (.ref a1), .val (.ref a2), .val (.int (7 : Int32))] [(.int (7 : Int32)), (.ref c2), (.int u7), (.ref a1)])) (X335.iaload hx (j := (7 : Int32)) (v := (.int v7)) (by rw [e335]; exact Ar336.1) (State.isArrayOf_alike hZ.alike Ar336.2.1) Ar336.2.2 hin336 (Has.at Ha336 hin336 rfl) (g := (mkF m 22 #[.val (.ref a1), .val (.ref a2), .val (.int (7 : Int32))] [(.int (7 : Int32)), (.ref c2), (.int u7), (.ref a1)])) rfl rfl (hb hby d4_22)) ?_
  obtain ⟨cq337, kq337, q337a, q337b, q337c⟩ := isOf hZ e335 Q325
  obtain ⟨_, _, ⟨T337, L337, k337, n337⟩, -, X337, ⟨Lc337, hQ337, l337, y337, z337⟩, st337⟩ := X335.virtualBack hx (y := (⟨"com/example/axiomwright/axiomwright/Arcs", "add", "(II)V"⟩ : MethodName)) (z := (⟨"com/example/axiomwright/axiomwright/Arcs", "add", "(II)V"⟩ : MethodName)) hown (mvT hZ (hw _ (List.mem_of_getElem? (i := 26) rfl))) (mvT hZ (hw _ (List.mem_of_getElem? (i := 15) rfl))) (notFace_of_selects (args := #[]) (mvT hZ (hw _ (List.mem_of_getElem? (i := 17) rfl)))) (mvT hZ (hw _ (List.mem_of_getElem? (i := 17) rfl))) (mvT hZ (hw _ (List.mem_of_getElem? (i := 16) rfl))) (by decide) (backOf (W := 0) (rm3 l Z a0 hw [] a1 u7 v7 (13 : Int32) b1 b2 k1 k2 [(.int x0), (.int x1), (.int x2), (.int x3), (.int x4), (.int x5), (.int u0), (.int u1), (.int u2), (.int u3), (.int u4), (.int u5), (.int u6), (.int x13), (.int x14), (.int x15)] [(.int y0), (.int y1), (.int y2), (.int y3), (.int y4), (.int y5), (.int v0), (.int v1), (.int v2), (.int v3), (.int v4), (.int v5), (.int v6), (.int y13), (.int y14), (.int y15)] T324.heap n0 Z324 Q325 U324_0n U324_1 U324_2 U324_3n U324_4n g_a1 g_b1 g_b2 ne_a1_b1 ne_a1_b2 ne_b1_b2 (by decide) (by decide) (by decide) (Nat.le_of_ble_eq_true rfl) (Nat.le_of_ble_eq_true rfl)) hZ (hw _ (List.mem_of_getElem? (i := 18) rfl)) (hw _ (List.mem_of_getElem? (i := 2) rfl)) (by decide) (by decide)) q337a q337c (g := (mkF m 23 #[.val (.ref a1), .val (.ref a2), .val (.int (7 : Int32))] [(.int v7), (.int u7), (.ref a1)])) rfl (by rw [hml]; rfl) (Steps.refl _) (argsL := [(.int u7), (.int v7)]) (rest := []) (lenOf pd_0 rfl) rfl (by show 2 * 0 + _ ≤ _; exact Nat.le_of_eq rfl) (hb hby d4_23) (fun _ _ => ⟨rfl, e335, (by decide : 0 + 0 ≤ _), (by decide : 0 + 0 ≤ _)⟩)
  dsimp only [Pt.U, Pt.locs, Pt.cells, Pt.slots] at X337 l337 y337 z337 st337 hQ337
  subst l337 y337 z337
  obtain ⟨rfl, Nq337, Kq337, U337_0, U337_1, U337_2, U337_3, U337_4⟩ := hQ337
  have Q338 : Exa Z T337.heap a1 "com/example/axiomwright/axiomwright/Arcs" := Q325.keep Kq337
  have Q339 : Fld Z T337.heap a2 "com/example/axiomwright/axiomwright/Arcs" "size" "I" (.int (10 : Int32)) := Q326.keep Kq337 (ninS ne_a2_a1 (ninS ne_a2_b1 (ninS ne_a2_b2 nin0)))
  have Q340 : Fld Z T337.heap a2 "com/example/axiomwright/axiomwright/Arcs" "from" "[I" (.ref c1) := Q327.keep Kq337 (ninS ne_a2_a1 (ninS ne_a2_b1 (ninS ne_a2_b2 nin0)))
  have Q341 : Fld Z T337.heap a2 "com/example/axiomwright/axiomwright/Arcs" "to" "[I" (.ref c2) := Q328.keep Kq337 (ninS ne_a2_a1 (ninS ne_a2_b1 (ninS ne_a2_b2 nin0)))
  have Q342 : Arv Z T337.heap c1 j1 .int (16 : Int32) [(.int u0), (.int u1), (.int u2), (.int u3), (.int u4), (.int u5), (.int u6), (.int u7), (.int u8), (.int u9), (.int u10), (.int u11), (.int u12), (.int u13), (.int u14), (.int u15)] (.int (0 : Int32)) := Q329.keep Kq337 (ninS ne_c1_a1 (ninS ne_c1_b1 (ninS ne_c1_b2 nin0)))
  have Q343 : Arv Z T337.heap c2 j2 .int (16 : Int32) [(.int v0), (.int v1), (.int v2), (.int v3), (.int v4), (.int v5), (.int v6), (.int v7), (.int v8), (.int v9), (.int v10), (.int v11), (.int v12), (.int v13), (.int v14), (.int v15)] (.int (0 : Int32)) := Q330.keep Kq337 (ninS ne_c2_a1 (ninS ne_c2_b1 (ninS ne_c2_b2 nin0)))
  have U337_0n : Fld Z T337.heap a1 "com/example/axiomwright/axiomwright/Arcs" "size" "I" (.int (14 : Int32)) := U337_0
  have U337_3n : Arv Z T337.heap b1 k1 .int (16 : Int32) [(.int x0), (.int x1), (.int x2), (.int x3), (.int x4), (.int x5), (.int u0), (.int u1), (.int u2), (.int u3), (.int u4), (.int u5), (.int u6), (.int u7), (.int x14), (.int x15)] (.int (0 : Int32)) := U337_3
  have U337_4n : Arv Z T337.heap b2 k2 .int (16 : Int32) [(.int y0), (.int y1), (.int y2), (.int y3), (.int y4), (.int y5), (.int v0), (.int v1), (.int v2), (.int v3), (.int v4), (.int v5), (.int v6), (.int v7), (.int y14), (.int y15)] (.int (0 : Int32)) := U337_4
  have Z337 : n0 ≤ T337.heap.size := Nat.le_trans Z324 Kq337.1
  have K337 : Keep h0 T337.heap [a1, b1, b2] := K324.trans Kq337 (allS (Or.inl (List.mem_of_getElem? (i := 0) rfl)) (allS (Or.inl (List.mem_of_getElem? (i := 1) rfl)) (allS (Or.inl (List.mem_of_getElem? (i := 2) rfl)) all0)))
  have N337 := Fr.app N324 Nq337
  refine own_go (A := _) (B := T337.setTop (mkF m 26 #[.val (.ref a1), .val (.ref a2), .val (.int (7 : Int32))] [])) (fun t k => st337.trans k) ?_
  refine own_go (A := T337.setTop (mkF m 26 #[.val (.ref a1), .val (.ref a2), .val (.int (7 : Int32))] [])) (B := T337.setTop (mkF m 4 #[.val (.ref a1), .val (.ref a2), .val (.int (8 : Int32))] [(.ref a2), (.int (8 : Int32))])) (fun t k => ?_) ?_
  · show Steps p.tables e below (T337.setTop (mkF m 26 #[.val (.ref a1), .val (.ref a2), .val (.int (7 : Int32))] [])) _
    refine XS.iinc X337.here hx rfl (hb hby d4_26) rfl (l' := #[.val (.ref a1), .val (.ref a2), .val (.int (8 : Int32))]) rfl ?_
    show Steps p.tables e below (T337.setTop (mkF m 29 #[.val (.ref a1), .val (.ref a2), .val (.int (8 : Int32))] [])) _
    refine XS.goto X337.here hx rfl (pc0 := 29) (pc' := 2) rfl (hb hby d4_29) (by decide) (by decide) ?_
    show Steps p.tables e below (T337.setTop (mkF m 2 #[.val (.ref a1), .val (.ref a2), .val (.int (8 : Int32))] [])) _
    refine XS.iloadN X337.here hx rfl (hb hby d4_2) rfl ?_
    show Steps p.tables e below (T337.setTop (mkF m 3 #[.val (.ref a1), .val (.ref a2), .val (.int (8 : Int32))] [(.int (8 : Int32))])) _
    refine XS.aloadN X337.here hx rfl (hb hby d4_3) rfl rfl ?_
    exact k
  obtain ⟨T344, X344, e344, st344⟩ := getF X337 hx hZ hown (host := "") (Or.inl (hw _ (List.mem_of_getElem? (i := 19) rfl))) Via.refl rfl Q339 (g := (mkF m 4 #[.val (.ref a1), .val (.ref a2), .val (.int (8 : Int32))] [(.ref a2), (.int (8 : Int32))])) rfl rfl (hb hby d4_4)
  refine own_go st344 ?_
  refine own_go (A := T344.setTop (mkF m 7 #[.val (.ref a1), .val (.ref a2), .val (.int (8 : Int32))] [(.int (10 : Int32)), (.int (8 : Int32))])) (B := T344.setTop (mkF m 12 #[.val (.ref a1), .val (.ref a2), .val (.int (8 : Int32))] [(.ref a2), (.ref a1)])) (fun t k => ?_) ?_
  · show Steps p.tables e below (T344.setTop (mkF m 7 #[.val (.ref a1), .val (.ref a2), .val (.int (8 : Int32))] [(.int (10 : Int32)), (.int (8 : Int32))])) _
    refine XS.icmpNo X344.here hx rfl (hb hby d4_7) rfl (tlt (by decide : ((8 : Int32) < (10 : Int32)))).2.1 ?_
    show Steps p.tables e below (T344.setTop (mkF m 10 #[.val (.ref a1), .val (.ref a2), .val (.int (8 : Int32))] [])) _
    refine XS.aloadN X344.here hx rfl (hb hby d4_10) rfl rfl ?_
    show Steps p.tables e below (T344.setTop (mkF m 11 #[.val (.ref a1), .val (.ref a2), .val (.int (8 : Int32))] [(.ref a1)])) _
    refine XS.aloadN X344.here hx rfl (hb hby d4_11) rfl rfl ?_
    exact k
  obtain ⟨T346, X346, e346, st346⟩ := getF X344 hx hZ hown (host := "") (Or.inl (hw _ (List.mem_of_getElem? (i := 10) rfl))) Via.refl e344 Q340 (g := (mkF m 12 #[.val (.ref a1), .val (.ref a2), .val (.int (8 : Int32))] [(.ref a2), (.ref a1)])) rfl rfl (hb hby d4_12)
  refine own_go st346 ?_
  refine own_go (A := T346.setTop (mkF m 15 #[.val (.ref a1), .val (.ref a2), .val (.int (8 : Int32))] [(.ref c1), (.ref a1)])) (B := T346.setTop (mkF m 16 #[.val (.ref a1), .val (.ref a2), .val (.int (8 : Int32))] [(.int (8 : Int32)), (.ref c1), (.ref a1)])) (fun t k => ?_) ?_
  · show Steps p.tables e below (T346.setTop (mkF m 15 #[.val (.ref a1), .val (.ref a2), .val (.int (8 : Int32))] [(.ref c1), (.ref a1)])) _
    refine XS.iloadN X346.here hx rfl (hb hby d4_15) rfl ?_
    exact k
  obtain ⟨cl347, Ar347, q347, S347, M347, Ha347, G347⟩ := id Q342
  have hin347 : ¬ ((8 : Int32) < 0 ∨ cl347.slots.size ≤ ((8 : Int32)).toNatClampNeg) := inb_of S347 ⟨by decide, by decide⟩
  refine own_go (A := T346.setTop (mkF m 16 #[.val (.ref a1), .val (.ref a2), .val (.int (8 : Int32))] [(.int (8 : Int32)), (.ref c1), (.ref a1)])) (X346.iaload hx (j := (8 : Int32)) (v := (.int u8)) (by rw [e346]; exact Ar347.1) (State.isArrayOf_alike hZ.alike Ar347.2.1) Ar347.2.2 hin347 (Has.at Ha347 hin347 rfl) (g := (mkF m 16 #[.val (.ref a1), .val (.ref a2), .val (.int (8 : Int32))] [(.int (8 : Int32)), (.ref c1), (.ref a1)])) rfl rfl (hb hby d4_16)) ?_
  refine own_go (A := T346.setTop (mkF m 17 #[.val (.ref a1), .val (.ref a2), .val (.int (8 : Int32))] [(.int u8), (.ref a1)])) (B := T346.setTop (mkF m 18 #[.val (.ref a1), .val (.ref a2), .val (.int (8 : Int32))] [(.ref a2), (.int u8), (.ref a1)])) (fun t k => ?_) ?_
  · show Steps p.tables e below (T346.setTop (mkF m 17 #[.val (.ref a1), .val (.ref a2), .val (.int (8 : Int32))] [(.int u8), (.ref a1)])) _
    refine XS.aloadN X346.here hx rfl (hb hby d4_17) rfl rfl ?_
    exact k
  obtain ⟨T348, X348, e348, st348⟩ := getF X346 hx hZ hown (host := "") (Or.inl (hw _ (List.mem_of_getElem? (i := 12) rfl))) Via.refl e346 Q341 (g := (mkF m 18 #[.val (.ref a1), .val (.ref a2), .val (.int (8 : Int32))] [(.ref a2), (.int u8), (.ref a1)])) rfl rfl (hb hby d4_18)
  refine own_go st348 ?_
  refine own_go (A := T348.setTop (mkF m 21 #[.val (.ref a1), .val (.ref a2), .val (.int (8 : Int32))] [(.ref c2), (.int u8), (.ref a1)])) (B := T348.setTop (mkF m 22 #[.val (.ref a1), .val (.ref a2), .val (.int (8 : Int32))] [(.int (8 : Int32)), (.ref c2), (.int u8), (.ref a1)])) (fun t k => ?_) ?_
  · show Steps p.tables e below (T348.setTop (mkF m 21 #[.val (.ref a1), .val (.ref a2), .val (.int (8 : Int32))] [(.ref c2), (.int u8), (.ref a1)])) _
    refine XS.iloadN X348.here hx rfl (hb hby d4_21) rfl ?_
    exact k
  obtain ⟨cl349, Ar349, q349, S349, M349, Ha349, G349⟩ := id Q343
  have hin349 : ¬ ((8 : Int32) < 0 ∨ cl349.slots.size ≤ ((8 : Int32)).toNatClampNeg) := inb_of S349 ⟨by decide, by decide⟩
  refine own_go (A := T348.setTop (mkF m 22 #[.val (.ref a1), .val (.ref a2), .val (.int (8 : Int32))] [(.int (8 : Int32)), (.ref c2), (.int u8), (.ref a1)])) (X348.iaload hx (j := (8 : Int32)) (v := (.int v8)) (by rw [e348]; exact Ar349.1) (State.isArrayOf_alike hZ.alike Ar349.2.1) Ar349.2.2 hin349 (Has.at Ha349 hin349 rfl) (g := (mkF m 22 #[.val (.ref a1), .val (.ref a2), .val (.int (8 : Int32))] [(.int (8 : Int32)), (.ref c2), (.int u8), (.ref a1)])) rfl rfl (hb hby d4_22)) ?_
  obtain ⟨cq350, kq350, q350a, q350b, q350c⟩ := isOf hZ e348 Q338
  obtain ⟨_, _, ⟨T350, L350, k350, n350⟩, -, X350, ⟨Lc350, hQ350, l350, y350, z350⟩, st350⟩ := X348.virtualBack hx (y := (⟨"com/example/axiomwright/axiomwright/Arcs", "add", "(II)V"⟩ : MethodName)) (z := (⟨"com/example/axiomwright/axiomwright/Arcs", "add", "(II)V"⟩ : MethodName)) hown (mvT hZ (hw _ (List.mem_of_getElem? (i := 26) rfl))) (mvT hZ (hw _ (List.mem_of_getElem? (i := 15) rfl))) (notFace_of_selects (args := #[]) (mvT hZ (hw _ (List.mem_of_getElem? (i := 17) rfl)))) (mvT hZ (hw _ (List.mem_of_getElem? (i := 17) rfl))) (mvT hZ (hw _ (List.mem_of_getElem? (i := 16) rfl))) (by decide) (backOf (W := 0) (rm3 l Z a0 hw [] a1 u8 v8 (14 : Int32) b1 b2 k1 k2 [(.int x0), (.int x1), (.int x2), (.int x3), (.int x4), (.int x5), (.int u0), (.int u1), (.int u2), (.int u3), (.int u4), (.int u5), (.int u6), (.int u7), (.int x14), (.int x15)] [(.int y0), (.int y1), (.int y2), (.int y3), (.int y4), (.int y5), (.int v0), (.int v1), (.int v2), (.int v3), (.int v4), (.int v5), (.int v6), (.int v7), (.int y14), (.int y15)] T337.heap n0 Z337 Q338 U337_0n U337_1 U337_2 U337_3n U337_4n g_a1 g_b1 g_b2 ne_a1_b1 ne_a1_b2 ne_b1_b2 (by decide) (by decide) (by decide) (Nat.le_of_ble_eq_true rfl) (Nat.le_of_ble_eq_true rfl)) hZ (hw _ (List.mem_of_getElem? (i := 18) rfl)) (hw _ (List.mem_of_getElem? (i := 2) rfl)) (by decide) (by decide)) q350a q350c (g := (mkF m 23 #[.val (.ref a1), .val (.ref a2), .val (.int (8 : Int32))] [(.int v8), (.int u8), (.ref a1)])) rfl (by rw [hml]; rfl) (Steps.refl _) (argsL := [(.int u8), (.int v8)]) (rest := []) (lenOf pd_0 rfl) rfl (by show 2 * 0 + _ ≤ _; exact Nat.le_of_eq rfl) (hb hby d4_23) (fun _ _ => ⟨rfl, e348, (by decide : 0 + 0 ≤ _), (by decide : 0 + 0 ≤ _)⟩)
  dsimp only [Pt.U, Pt.locs, Pt.cells, Pt.slots] at X350 l350 y350 z350 st350 hQ350
  subst l350 y350 z350
  obtain ⟨rfl, Nq350, Kq350, U350_0, U350_1, U350_2, U350_3, U350_4⟩ := hQ350
  have Q351 : Exa Z T350.heap a1 "com/example/axiomwright/axiomwright/Arcs" := Q338.keep Kq350
  have Q352 : Fld Z T350.heap a2 "com/example/axiomwright/axiomwright/Arcs" "size" "I" (.int (10 : Int32)) := Q339.keep Kq350 (ninS ne_a2_a1 (ninS ne_a2_b1 (ninS ne_a2_b2 nin0)))
  have Q353 : Fld Z T350.heap a2 "com/example/axiomwright/axiomwright/Arcs" "from" "[I" (.ref c1) := Q340.keep Kq350 (ninS ne_a2_a1 (ninS ne_a2_b1 (ninS ne_a2_b2 nin0)))
  have Q354 : Fld Z T350.heap a2 "com/example/axiomwright/axiomwright/Arcs" "to" "[I" (.ref c2) := Q341.keep Kq350 (ninS ne_a2_a1 (ninS ne_a2_b1 (ninS ne_a2_b2 nin0)))
  have Q355 : Arv Z T350.heap c1 j1 .int (16 : Int32) [(.int u0), (.int u1), (.int u2), (.int u3), (.int u4), (.int u5), (.int u6), (.int u7), (.int u8), (.int u9), (.int u10), (.int u11), (.int u12), (.int u13), (.int u14), (.int u15)] (.int (0 : Int32)) := Q342.keep Kq350 (ninS ne_c1_a1 (ninS ne_c1_b1 (ninS ne_c1_b2 nin0)))
  have Q356 : Arv Z T350.heap c2 j2 .int (16 : Int32) [(.int v0), (.int v1), (.int v2), (.int v3), (.int v4), (.int v5), (.int v6), (.int v7), (.int v8), (.int v9), (.int v10), (.int v11), (.int v12), (.int v13), (.int v14), (.int v15)] (.int (0 : Int32)) := Q343.keep Kq350 (ninS ne_c2_a1 (ninS ne_c2_b1 (ninS ne_c2_b2 nin0)))
  have U350_0n : Fld Z T350.heap a1 "com/example/axiomwright/axiomwright/Arcs" "size" "I" (.int (15 : Int32)) := U350_0
  have U350_3n : Arv Z T350.heap b1 k1 .int (16 : Int32) [(.int x0), (.int x1), (.int x2), (.int x3), (.int x4), (.int x5), (.int u0), (.int u1), (.int u2), (.int u3), (.int u4), (.int u5), (.int u6), (.int u7), (.int u8), (.int x15)] (.int (0 : Int32)) := U350_3
  have U350_4n : Arv Z T350.heap b2 k2 .int (16 : Int32) [(.int y0), (.int y1), (.int y2), (.int y3), (.int y4), (.int y5), (.int v0), (.int v1), (.int v2), (.int v3), (.int v4), (.int v5), (.int v6), (.int v7), (.int v8), (.int y15)] (.int (0 : Int32)) := U350_4
  have Z350 : n0 ≤ T350.heap.size := Nat.le_trans Z337 Kq350.1
  have K350 : Keep h0 T350.heap [a1, b1, b2] := K337.trans Kq350 (allS (Or.inl (List.mem_of_getElem? (i := 0) rfl)) (allS (Or.inl (List.mem_of_getElem? (i := 1) rfl)) (allS (Or.inl (List.mem_of_getElem? (i := 2) rfl)) all0)))
  have N350 := Fr.app N337 Nq350
  refine own_go (A := _) (B := T350.setTop (mkF m 26 #[.val (.ref a1), .val (.ref a2), .val (.int (8 : Int32))] [])) (fun t k => st350.trans k) ?_
  refine own_go (A := T350.setTop (mkF m 26 #[.val (.ref a1), .val (.ref a2), .val (.int (8 : Int32))] [])) (B := T350.setTop (mkF m 4 #[.val (.ref a1), .val (.ref a2), .val (.int (9 : Int32))] [(.ref a2), (.int (9 : Int32))])) (fun t k => ?_) ?_
  · show Steps p.tables e below (T350.setTop (mkF m 26 #[.val (.ref a1), .val (.ref a2), .val (.int (8 : Int32))] [])) _
    refine XS.iinc X350.here hx rfl (hb hby d4_26) rfl (l' := #[.val (.ref a1), .val (.ref a2), .val (.int (9 : Int32))]) rfl ?_
    show Steps p.tables e below (T350.setTop (mkF m 29 #[.val (.ref a1), .val (.ref a2), .val (.int (9 : Int32))] [])) _
    refine XS.goto X350.here hx rfl (pc0 := 29) (pc' := 2) rfl (hb hby d4_29) (by decide) (by decide) ?_
    show Steps p.tables e below (T350.setTop (mkF m 2 #[.val (.ref a1), .val (.ref a2), .val (.int (9 : Int32))] [])) _
    refine XS.iloadN X350.here hx rfl (hb hby d4_2) rfl ?_
    show Steps p.tables e below (T350.setTop (mkF m 3 #[.val (.ref a1), .val (.ref a2), .val (.int (9 : Int32))] [(.int (9 : Int32))])) _
    refine XS.aloadN X350.here hx rfl (hb hby d4_3) rfl rfl ?_
    exact k
  obtain ⟨T357, X357, e357, st357⟩ := getF X350 hx hZ hown (host := "") (Or.inl (hw _ (List.mem_of_getElem? (i := 19) rfl))) Via.refl rfl Q352 (g := (mkF m 4 #[.val (.ref a1), .val (.ref a2), .val (.int (9 : Int32))] [(.ref a2), (.int (9 : Int32))])) rfl rfl (hb hby d4_4)
  refine own_go st357 ?_
  refine own_go (A := T357.setTop (mkF m 7 #[.val (.ref a1), .val (.ref a2), .val (.int (9 : Int32))] [(.int (10 : Int32)), (.int (9 : Int32))])) (B := T357.setTop (mkF m 12 #[.val (.ref a1), .val (.ref a2), .val (.int (9 : Int32))] [(.ref a2), (.ref a1)])) (fun t k => ?_) ?_
  · show Steps p.tables e below (T357.setTop (mkF m 7 #[.val (.ref a1), .val (.ref a2), .val (.int (9 : Int32))] [(.int (10 : Int32)), (.int (9 : Int32))])) _
    refine XS.icmpNo X357.here hx rfl (hb hby d4_7) rfl (tlt (by decide : ((9 : Int32) < (10 : Int32)))).2.1 ?_
    show Steps p.tables e below (T357.setTop (mkF m 10 #[.val (.ref a1), .val (.ref a2), .val (.int (9 : Int32))] [])) _
    refine XS.aloadN X357.here hx rfl (hb hby d4_10) rfl rfl ?_
    show Steps p.tables e below (T357.setTop (mkF m 11 #[.val (.ref a1), .val (.ref a2), .val (.int (9 : Int32))] [(.ref a1)])) _
    refine XS.aloadN X357.here hx rfl (hb hby d4_11) rfl rfl ?_
    exact k
  obtain ⟨T359, X359, e359, st359⟩ := getF X357 hx hZ hown (host := "") (Or.inl (hw _ (List.mem_of_getElem? (i := 10) rfl))) Via.refl e357 Q353 (g := (mkF m 12 #[.val (.ref a1), .val (.ref a2), .val (.int (9 : Int32))] [(.ref a2), (.ref a1)])) rfl rfl (hb hby d4_12)
  refine own_go st359 ?_
  refine own_go (A := T359.setTop (mkF m 15 #[.val (.ref a1), .val (.ref a2), .val (.int (9 : Int32))] [(.ref c1), (.ref a1)])) (B := T359.setTop (mkF m 16 #[.val (.ref a1), .val (.ref a2), .val (.int (9 : Int32))] [(.int (9 : Int32)), (.ref c1), (.ref a1)])) (fun t k => ?_) ?_
  · show Steps p.tables e below (T359.setTop (mkF m 15 #[.val (.ref a1), .val (.ref a2), .val (.int (9 : Int32))] [(.ref c1), (.ref a1)])) _
    refine XS.iloadN X359.here hx rfl (hb hby d4_15) rfl ?_
    exact k
  obtain ⟨cl360, Ar360, q360, S360, M360, Ha360, G360⟩ := id Q355
  have hin360 : ¬ ((9 : Int32) < 0 ∨ cl360.slots.size ≤ ((9 : Int32)).toNatClampNeg) := inb_of S360 ⟨by decide, by decide⟩
  refine own_go (A := T359.setTop (mkF m 16 #[.val (.ref a1), .val (.ref a2), .val (.int (9 : Int32))] [(.int (9 : Int32)), (.ref c1), (.ref a1)])) (X359.iaload hx (j := (9 : Int32)) (v := (.int u9)) (by rw [e359]; exact Ar360.1) (State.isArrayOf_alike hZ.alike Ar360.2.1) Ar360.2.2 hin360 (Has.at Ha360 hin360 rfl) (g := (mkF m 16 #[.val (.ref a1), .val (.ref a2), .val (.int (9 : Int32))] [(.int (9 : Int32)), (.ref c1), (.ref a1)])) rfl rfl (hb hby d4_16)) ?_
  refine own_go (A := T359.setTop (mkF m 17 #[.val (.ref a1), .val (.ref a2), .val (.int (9 : Int32))] [(.int u9), (.ref a1)])) (B := T359.setTop (mkF m 18 #[.val (.ref a1), .val (.ref a2), .val (.int (9 : Int32))] [(.ref a2), (.int u9), (.ref a1)])) (fun t k => ?_) ?_
  · show Steps p.tables e below (T359.setTop (mkF m 17 #[.val (.ref a1), .val (.ref a2), .val (.int (9 : Int32))] [(.int u9), (.ref a1)])) _
    refine XS.aloadN X359.here hx rfl (hb hby d4_17) rfl rfl ?_
    exact k
  obtain ⟨T361, X361, e361, st361⟩ := getF X359 hx hZ hown (host := "") (Or.inl (hw _ (List.mem_of_getElem? (i := 12) rfl))) Via.refl e359 Q354 (g := (mkF m 18 #[.val (.ref a1), .val (.ref a2), .val (.int (9 : Int32))] [(.ref a2), (.int u9), (.ref a1)])) rfl rfl (hb hby d4_18)
  refine own_go st361 ?_
  refine own_go (A := T361.setTop (mkF m 21 #[.val (.ref a1), .val (.ref a2), .val (.int (9 : Int32))] [(.ref c2), (.int u9), (.ref a1)])) (B := T361.setTop (mkF m 22 #[.val (.ref a1), .val (.ref a2), .val (.int (9 : Int32))] [(.int (9 : Int32)), (.ref c2), (.int u9), (.ref a1)])) (fun t k => ?_) ?_
  · show Steps p.tables e below (T361.setTop (mkF m 21 #[.val (.ref a1), .val (.ref a2), .val (.int (9 : Int32))] [(.ref c2), (.int u9), (.ref a1)])) _
    refine XS.iloadN X361.here hx rfl (hb hby d4_21) rfl ?_
    exact k
  obtain ⟨cl362, Ar362, q362, S362, M362, Ha362, G362⟩ := id Q356
  have hin362 : ¬ ((9 : Int32) < 0 ∨ cl362.slots.size ≤ ((9 : Int32)).toNatClampNeg) := inb_of S362 ⟨by decide, by decide⟩
  refine own_go (A := T361.setTop (mkF m 22 #[.val (.ref a1), .val (.ref a2), .val (.int (9 : Int32))] [(.int (9 : Int32)), (.ref c2), (.int u9), (.ref a1)])) (X361.iaload hx (j := (9 : Int32)) (v := (.int v9)) (by rw [e361]; exact Ar362.1) (State.isArrayOf_alike hZ.alike Ar362.2.1) Ar362.2.2 hin362 (Has.at Ha362 hin362 rfl) (g := (mkF m 22 #[.val (.ref a1), .val (.ref a2), .val (.int (9 : Int32))] [(.int (9 : Int32)), (.ref c2), (.int u9), (.ref a1)])) rfl rfl (hb hby d4_22)) ?_
  obtain ⟨cq363, kq363, q363a, q363b, q363c⟩ := isOf hZ e361 Q351
  obtain ⟨_, _, ⟨T363, L363, k363, n363⟩, -, X363, ⟨Lc363, hQ363, l363, y363, z363⟩, st363⟩ := X361.virtualBack hx (y := (⟨"com/example/axiomwright/axiomwright/Arcs", "add", "(II)V"⟩ : MethodName)) (z := (⟨"com/example/axiomwright/axiomwright/Arcs", "add", "(II)V"⟩ : MethodName)) hown (mvT hZ (hw _ (List.mem_of_getElem? (i := 26) rfl))) (mvT hZ (hw _ (List.mem_of_getElem? (i := 15) rfl))) (notFace_of_selects (args := #[]) (mvT hZ (hw _ (List.mem_of_getElem? (i := 17) rfl)))) (mvT hZ (hw _ (List.mem_of_getElem? (i := 17) rfl))) (mvT hZ (hw _ (List.mem_of_getElem? (i := 16) rfl))) (by decide) (backOf (W := 0) (rm3 l Z a0 hw [] a1 u9 v9 (15 : Int32) b1 b2 k1 k2 [(.int x0), (.int x1), (.int x2), (.int x3), (.int x4), (.int x5), (.int u0), (.int u1), (.int u2), (.int u3), (.int u4), (.int u5), (.int u6), (.int u7), (.int u8), (.int x15)] [(.int y0), (.int y1), (.int y2), (.int y3), (.int y4), (.int y5), (.int v0), (.int v1), (.int v2), (.int v3), (.int v4), (.int v5), (.int v6), (.int v7), (.int v8), (.int y15)] T350.heap n0 Z350 Q351 U350_0n U350_1 U350_2 U350_3n U350_4n g_a1 g_b1 g_b2 ne_a1_b1 ne_a1_b2 ne_b1_b2 (by decide) (by decide) (by decide) (Nat.le_of_ble_eq_true rfl) (Nat.le_of_ble_eq_true rfl)) hZ (hw _ (List.mem_of_getElem? (i := 18) rfl)) (hw _ (List.mem_of_getElem? (i := 2) rfl)) (by decide) (by decide)) q363a q363c (g := (mkF m 23 #[.val (.ref a1), .val (.ref a2), .val (.int (9 : Int32))] [(.int v9), (.int u9), (.ref a1)])) rfl (by rw [hml]; rfl) (Steps.refl _) (argsL := [(.int u9), (.int v9)]) (rest := []) (lenOf pd_0 rfl) rfl (by show 2 * 0 + _ ≤ _; exact Nat.le_of_eq rfl) (hb hby d4_23) (fun _ _ => ⟨rfl, e361, (by decide : 0 + 0 ≤ _), (by decide : 0 + 0 ≤ _)⟩)
  dsimp only [Pt.U, Pt.locs, Pt.cells, Pt.slots] at X363 l363 y363 z363 st363 hQ363
  subst l363 y363 z363
  obtain ⟨rfl, Nq363, Kq363, U363_0, U363_1, U363_2, U363_3, U363_4⟩ := hQ363
  have Q364 : Exa Z T363.heap a1 "com/example/axiomwright/axiomwright/Arcs" := Q351.keep Kq363
  have Q365 : Fld Z T363.heap a2 "com/example/axiomwright/axiomwright/Arcs" "size" "I" (.int (10 : Int32)) := Q352.keep Kq363 (ninS ne_a2_a1 (ninS ne_a2_b1 (ninS ne_a2_b2 nin0)))
  have Q366 : Fld Z T363.heap a2 "com/example/axiomwright/axiomwright/Arcs" "from" "[I" (.ref c1) := Q353.keep Kq363 (ninS ne_a2_a1 (ninS ne_a2_b1 (ninS ne_a2_b2 nin0)))
  have Q367 : Fld Z T363.heap a2 "com/example/axiomwright/axiomwright/Arcs" "to" "[I" (.ref c2) := Q354.keep Kq363 (ninS ne_a2_a1 (ninS ne_a2_b1 (ninS ne_a2_b2 nin0)))
  have Q368 : Arv Z T363.heap c1 j1 .int (16 : Int32) [(.int u0), (.int u1), (.int u2), (.int u3), (.int u4), (.int u5), (.int u6), (.int u7), (.int u8), (.int u9), (.int u10), (.int u11), (.int u12), (.int u13), (.int u14), (.int u15)] (.int (0 : Int32)) := Q355.keep Kq363 (ninS ne_c1_a1 (ninS ne_c1_b1 (ninS ne_c1_b2 nin0)))
  have Q369 : Arv Z T363.heap c2 j2 .int (16 : Int32) [(.int v0), (.int v1), (.int v2), (.int v3), (.int v4), (.int v5), (.int v6), (.int v7), (.int v8), (.int v9), (.int v10), (.int v11), (.int v12), (.int v13), (.int v14), (.int v15)] (.int (0 : Int32)) := Q356.keep Kq363 (ninS ne_c2_a1 (ninS ne_c2_b1 (ninS ne_c2_b2 nin0)))
  have U363_0n : Fld Z T363.heap a1 "com/example/axiomwright/axiomwright/Arcs" "size" "I" (.int (16 : Int32)) := U363_0
  have U363_3n : Arv Z T363.heap b1 k1 .int (16 : Int32) [(.int x0), (.int x1), (.int x2), (.int x3), (.int x4), (.int x5), (.int u0), (.int u1), (.int u2), (.int u3), (.int u4), (.int u5), (.int u6), (.int u7), (.int u8), (.int u9)] (.int (0 : Int32)) := U363_3
  have U363_4n : Arv Z T363.heap b2 k2 .int (16 : Int32) [(.int y0), (.int y1), (.int y2), (.int y3), (.int y4), (.int y5), (.int v0), (.int v1), (.int v2), (.int v3), (.int v4), (.int v5), (.int v6), (.int v7), (.int v8), (.int v9)] (.int (0 : Int32)) := U363_4
  have Z363 : n0 ≤ T363.heap.size := Nat.le_trans Z350 Kq363.1
  have K363 : Keep h0 T363.heap [a1, b1, b2] := K350.trans Kq363 (allS (Or.inl (List.mem_of_getElem? (i := 0) rfl)) (allS (Or.inl (List.mem_of_getElem? (i := 1) rfl)) (allS (Or.inl (List.mem_of_getElem? (i := 2) rfl)) all0)))
  have N363 := Fr.app N350 Nq363
  refine own_go (A := _) (B := T363.setTop (mkF m 26 #[.val (.ref a1), .val (.ref a2), .val (.int (9 : Int32))] [])) (fun t k => st363.trans k) ?_
  refine own_go (A := T363.setTop (mkF m 26 #[.val (.ref a1), .val (.ref a2), .val (.int (9 : Int32))] [])) (B := T363.setTop (mkF m 4 #[.val (.ref a1), .val (.ref a2), .val (.int (10 : Int32))] [(.ref a2), (.int (10 : Int32))])) (fun t k => ?_) ?_
  · show Steps p.tables e below (T363.setTop (mkF m 26 #[.val (.ref a1), .val (.ref a2), .val (.int (9 : Int32))] [])) _
    refine XS.iinc X363.here hx rfl (hb hby d4_26) rfl (l' := #[.val (.ref a1), .val (.ref a2), .val (.int (10 : Int32))]) rfl ?_
    show Steps p.tables e below (T363.setTop (mkF m 29 #[.val (.ref a1), .val (.ref a2), .val (.int (10 : Int32))] [])) _
    refine XS.goto X363.here hx rfl (pc0 := 29) (pc' := 2) rfl (hb hby d4_29) (by decide) (by decide) ?_
    show Steps p.tables e below (T363.setTop (mkF m 2 #[.val (.ref a1), .val (.ref a2), .val (.int (10 : Int32))] [])) _
    refine XS.iloadN X363.here hx rfl (hb hby d4_2) rfl ?_
    show Steps p.tables e below (T363.setTop (mkF m 3 #[.val (.ref a1), .val (.ref a2), .val (.int (10 : Int32))] [(.int (10 : Int32))])) _
    refine XS.aloadN X363.here hx rfl (hb hby d4_3) rfl rfl ?_
    exact k
  obtain ⟨T370, X370, e370, st370⟩ := getF X363 hx hZ hown (host := "") (Or.inl (hw _ (List.mem_of_getElem? (i := 19) rfl))) Via.refl rfl Q365 (g := (mkF m 4 #[.val (.ref a1), .val (.ref a2), .val (.int (10 : Int32))] [(.ref a2), (.int (10 : Int32))])) rfl rfl (hb hby d4_4)
  refine own_go st370 ?_
  refine own_go (A := T370.setTop (mkF m 7 #[.val (.ref a1), .val (.ref a2), .val (.int (10 : Int32))] [(.int (10 : Int32)), (.int (10 : Int32))])) (B := T370.setTop (mkF m 32 #[.val (.ref a1), .val (.ref a2), .val (.int (10 : Int32))] [])) (fun t k => ?_) ?_
  · show Steps p.tables e below (T370.setTop (mkF m 7 #[.val (.ref a1), .val (.ref a2), .val (.int (10 : Int32))] [(.int (10 : Int32)), (.int (10 : Int32))])) _
    refine XS.icmpYes X370.here hx rfl (pc0 := 7) (pc' := 32) rfl (hb hby d4_7) rfl (flt Int32.lt_irrefl).2.1 (by decide) (by decide) ?_
    exact k
  obtain ⟨fs, hr, hrun, hended, hW, hsame⟩ := X370.leave (v := none) (fun _ => rfl)
  refine ⟨_, _, ?_, hrun, hended, _, _, rfl, ?_, ⟨_, rfl⟩, hW, hsame.mono (by decide) (by decide)⟩
  · show Steps p.tables e below (T370.setTop (mkF m 32 #[.val (.ref a1), .val (.ref a2), .val (.int (10 : Int32))] [])) _
    exact X370.returnOut hx Bd.returns (hb hby d4_32) hr
  · show Qrm4_6_10 Z a1 a2 b1 b2 c1 c2 k1 k2 j1 j2 x0 x1 x2 x3 x4 x5 x6 x7 x8 x9 x10 x11 x12 x13 x14 x15 y0 y1 y2 y3 y4 y5 y6 y7 y8 y9 y10 y11 y12 y13 y14 y15 u0 u1 u2 u3 u4 u5 u6 u7 u8 u9 u10 u11 u12 u13 u14 u15 v0 v1 v2 v3 v4 v5 v6 v7 v8 v9 v10 v11 v12 v13 v14 v15 h0 n0 _ T370.heap _
    rw [e370]
    exact ⟨rfl, N363, K363, U363_0n, U363_1, U363_2, U363_3n, U363_4n⟩
def Qrm5 (Z : State) (a1 : Addr) (w1 : Int32) (h0 : Heap) (n0 : Nat) (v : Option Value) (h : Heap) (L : List Loc) : Prop := v = some (.int w1) ∧ Fr n0 L ∧ h = h0
theorem efrm5 (m : MethodId) (x0 : Addr) : entryFrame m #[(.ref x0)] 1 = mkF m 0 #[.val (.ref x0)] [] := by first | (simp [entryFrame, mkF, argsToLocals, Value.category]; done) | rfl
set_option maxRecDepth 65536 in
set_option maxHeartbeats 40000000 in
theorem rm5 (l : Launch) (Z : State) (a0 : Array Value) (hw : ∀ d ∈ tables_1, d.before a0 Z = true) (ws : List Jvm.Cond) (a1 : Addr) (w1 : Int32) (h0 : Heap) (n0 : Nat) (Z0 : n0 ≤ h0.size) (P0 : Fld Z h0 a1 "com/example/axiomwright/axiomwright/Arcs" "size" "I" (.int w1)) :
    MetFree l (⟨"com/example/axiomwright/axiomwright/Arcs", "size", "()I"⟩ : MethodName) (head1 (Jvm.Cond.code (⟨"com/example/axiomwright/axiomwright/Arcs", "size", "()I"⟩ : MethodName) prog_2_method_5_code 1 (some .int) :: ws) ({ frames := 0, cells := 0, slots := 0, locals := 0 } : Room)) (fun a U => a = #[(.ref a1)] ∧ Z.Warmed39 U.vm ∧ U.heap = h0) (fun _ _ _ _ _ => True) (fun _ U o U' => ∃ v L, o = .returned v ∧ Qrm5 Z a1 w1 h0 n0 v U'.heap L ∧ FrameEnd U o U' L ({ frames := 0, cells := 0, slots := 0, locals := 0 } : Room).cells ({ frames := 0, cells := 0, slots := 0, locals := 0 } : Room).slots) := by
  refine MetFree.of_bodySF (plainFor_of_name pn_0) hisR ?_
  intro p e s m args below meth c s₁ Bd hml0 hP hK
  obtain ⟨rfl, hZ, hh⟩ := hP
  have hx := Bd.exec
  have hby := Bd.bytes
  have hml : c.maxLocals = 1 := hml0
  have hown : s.vm.findClass "com/example/axiomwright/axiomwright/Arcs" = some m.cls := findClass_of_methodNamed Bd.named
  have hnm := (name_of_methodNamed Bd.named Bd.method).1
  have X0 : Stand p l e ({ frames := 0, cells := 0, slots := 0, locals := 0 } : Room) s m #[(.ref a1)] below meth c s₁ [] 0 0 := Stand.of_body Bd
  have e0 : s₁.heap = h0 := by rw [← hh, Bd.state]; rfl
  have N0 := Fr.nil n0
  have K0 : Keep h0 h0 [] := Keep.refl h0 _
  refine own_go (B := s₁.setTop (mkF m 0 #[.val (.ref a1)] [])) (fun t k => castTop (efrm5 m a1) k) ?_
  refine own_go (A := s₁.setTop (mkF m 0 #[.val (.ref a1)] [])) (B := s₁.setTop (mkF m 1 #[.val (.ref a1)] [(.ref a1)])) (fun t k => ?_) ?_
  · show Steps p.tables e below (s₁.setTop (mkF m 0 #[.val (.ref a1)] [])) _
    refine XS.aloadN X0.here hx rfl (hb hby d5_0) rfl rfl ?_
    exact k
  obtain ⟨T372, X372, e372, st372⟩ := getF X0 hx hZ hown (host := "") (Or.inl (hw _ (List.mem_of_getElem? (i := 19) rfl))) Via.refl e0 P0 (g := (mkF m 1 #[.val (.ref a1)] [(.ref a1)])) rfl rfl (hb hby d5_1)
  refine own_go st372 ?_
  obtain ⟨fs, hr, hrun, hended, hW, hsame⟩ := X372.leave (v := some (.int w1)) (fun h => by rw [Bd.returns] at h; cases h)
  refine ⟨_, _, ?_, hrun, hended, _, _, rfl, ?_, ⟨_, rfl⟩, hW, hsame.mono (by decide) (by decide)⟩
  · show Steps p.tables e below (T372.setTop (mkF m 4 #[.val (.ref a1)] [(.int w1)])) _
    exact retOut X372 hx Bd.returns rfl (Or.inl ⟨rfl, Or.inl rfl, _, rfl⟩) (hb hby d5_4) hr
  · show Qrm5 Z a1 w1 h0 n0 _ T372.heap _
    rw [e372]
    exact ⟨rfl, N0, rfl⟩
def Qrm7 (Z : State)  (h0 : Heap) (n0 : Nat) (v : Option Value) (h : Heap) (L : List Loc) : Prop := v = some (.int (16 : Int32)) ∧ Fr n0 L ∧ h = h0
theorem efrm7 (m : MethodId)  : entryFrame m #[(.int (16 : Int32)), (.int (32 : Int32))] 2 = mkF m 0 #[.val (.int (16 : Int32)), .val (.int (32 : Int32))] [] := by first | (simp [entryFrame, mkF, argsToLocals, Value.category]; done) | rfl
set_option maxRecDepth 65536 in
set_option maxHeartbeats 40000000 in
theorem rm7 (l : Launch) (Z : State) (a0 : Array Value) (hw : ∀ d ∈ tables_1, d.before a0 Z = true) (ws : List Jvm.Cond)  (h0 : Heap) (n0 : Nat) (Z0 : n0 ≤ h0.size)  :
    MetFree l (⟨"java/lang/Math", "min", "(II)I"⟩ : MethodName) (head1 (Jvm.Cond.code (⟨"java/lang/Math", "min", "(II)I"⟩ : MethodName) jdk_29_method_69_code 2 (some .int) :: ws) ({ frames := 0, cells := 0, slots := 0, locals := 0 } : Room)) (fun a U => a = #[(.int (16 : Int32)), (.int (32 : Int32))] ∧ Z.Warmed39 U.vm ∧ U.heap = h0) (fun _ _ _ _ _ => True) (fun _ U o U' => ∃ v L, o = .returned v ∧ Qrm7 Z  h0 n0 v U'.heap L ∧ FrameEnd U o U' L ({ frames := 0, cells := 0, slots := 0, locals := 0 } : Room).cells ({ frames := 0, cells := 0, slots := 0, locals := 0 } : Room).slots) := by
  refine MetFree.of_bodySF (Jvm.Free.JP.mathPlain rfl (by decide +kernel)) hisR ?_
  intro p e s m args below meth c s₁ Bd hml0 hP hK
  obtain ⟨rfl, hZ, hh⟩ := hP
  have hx := Bd.exec
  have hby := Bd.bytes
  have hml : c.maxLocals = 2 := hml0
  have hown : s.vm.findClass "java/lang/Math" = some m.cls := findClass_of_methodNamed Bd.named
  have hnm := (name_of_methodNamed Bd.named Bd.method).1
  have X0 : Stand p l e ({ frames := 0, cells := 0, slots := 0, locals := 0 } : Room) s m #[(.int (16 : Int32)), (.int (32 : Int32))] below meth c s₁ [] 0 0 := Stand.of_body Bd
  have e0 : s₁.heap = h0 := by rw [← hh, Bd.state]; rfl
  have N0 := Fr.nil n0
  have K0 : Keep h0 h0 [] := Keep.refl h0 _
  refine own_go (B := s₁.setTop (mkF m 0 #[.val (.int (16 : Int32)), .val (.int (32 : Int32))] [])) (fun t k => castTop (efrm7 m ) k) ?_
  refine own_go (A := s₁.setTop (mkF m 0 #[.val (.int (16 : Int32)), .val (.int (32 : Int32))] [])) (B := s₁.setTop (mkF m 10 #[.val (.int (16 : Int32)), .val (.int (32 : Int32))] [(.int (16 : Int32))])) (fun t k => ?_) ?_
  · show Steps p.tables e below (s₁.setTop (mkF m 0 #[.val (.int (16 : Int32)), .val (.int (32 : Int32))] [])) _
    refine XS.iloadN X0.here hx rfl (hb hby d7_0) rfl ?_
    show Steps p.tables e below (s₁.setTop (mkF m 1 #[.val (.int (16 : Int32)), .val (.int (32 : Int32))] [(.int (16 : Int32))])) _
    refine XS.iloadN X0.here hx rfl (hb hby d7_1) rfl ?_
    show Steps p.tables e below (s₁.setTop (mkF m 2 #[.val (.int (16 : Int32)), .val (.int (32 : Int32))] [(.int (32 : Int32)), (.int (16 : Int32))])) _
    refine XS.icmpNo X0.here hx rfl (hb hby d7_2) rfl (flt (by decide : ¬ ((32 : Int32) < (16 : Int32)))).2.2.1 ?_
    show Steps p.tables e below (s₁.setTop (mkF m 5 #[.val (.int (16 : Int32)), .val (.int (32 : Int32))] [])) _
    refine XS.iloadN X0.here hx rfl (hb hby d7_5) rfl ?_
    show Steps p.tables e below (s₁.setTop (mkF m 6 #[.val (.int (16 : Int32)), .val (.int (32 : Int32))] [(.int (16 : Int32))])) _
    refine XS.goto X0.here hx rfl (pc0 := 6) (pc' := 10) rfl (hb hby d7_6) (by decide) (by decide) ?_
    exact k
  obtain ⟨fs, hr, hrun, hended, hW, hsame⟩ := X0.leave (v := some (.int (16 : Int32))) (fun h => by rw [Bd.returns] at h; cases h)
  refine ⟨_, _, ?_, hrun, hended, _, _, rfl, ?_, ⟨_, rfl⟩, hW, hsame.mono (by decide) (by decide)⟩
  · show Steps p.tables e below (s₁.setTop (mkF m 10 #[.val (.int (16 : Int32)), .val (.int (32 : Int32))] [(.int (16 : Int32))])) _
    exact retOut X0 hx Bd.returns rfl (Or.inl ⟨rfl, Or.inl rfl, _, rfl⟩) (hb hby d7_10) hr
  · show Qrm7 Z  h0 n0 _ s₁.heap _
    rw [e0]
    exact ⟨rfl, N0, rfl⟩
def Qrm6 (Z : State) (a1 : Addr) (k1 : ClassId) (x0 : Int32) (x1 : Int32) (x2 : Int32) (x3 : Int32) (x4 : Int32) (x5 : Int32) (x6 : Int32) (x7 : Int32) (x8 : Int32) (x9 : Int32) (x10 : Int32) (x11 : Int32) (x12 : Int32) (x13 : Int32) (x14 : Int32) (x15 : Int32) (h0 : Heap) (n0 : Nat) (v : Option Value) (h : Heap) (L : List Loc) : Prop := ∃ b : Addr, ∃ k2 : ClassId, v = some (.ref b) ∧ Fr n0 L ∧ Keep h0 h [] ∧ h0.size ≤ b ∧ Arv Z h b k2 .int (32 : Int32) [(.int x0), (.int x1), (.int x2), (.int x3), (.int x4), (.int x5), (.int x6), (.int x7), (.int x8), (.int x9), (.int x10), (.int x11), (.int x12), (.int x13), (.int x14), (.int x15), (.int (0 : Int32)), (.int (0 : Int32)), (.int (0 : Int32)), (.int (0 : Int32)), (.int (0 : Int32)), (.int (0 : Int32)), (.int (0 : Int32)), (.int (0 : Int32)), (.int (0 : Int32)), (.int (0 : Int32)), (.int (0 : Int32)), (.int (0 : Int32)), (.int (0 : Int32)), (.int (0 : Int32)), (.int (0 : Int32)), (.int (0 : Int32))] (.int (0 : Int32))
theorem efrm6 (m : MethodId) (x0 : Addr) : entryFrame m #[(.ref x0), (.int (32 : Int32))] 3 = mkF m 0 #[.val (.ref x0), .val (.int (32 : Int32)), .unset] [] := by first | (simp [entryFrame, mkF, argsToLocals, Value.category]; done) | rfl
set_option maxRecDepth 65536 in
set_option maxHeartbeats 40000000 in
theorem rm6 (l : Launch) (Z : State) (a0 : Array Value) (hw : ∀ d ∈ tables_1, d.before a0 Z = true) (ws : List Jvm.Cond) (a1 : Addr) (k1 : ClassId) (x0 : Int32) (x1 : Int32) (x2 : Int32) (x3 : Int32) (x4 : Int32) (x5 : Int32) (x6 : Int32) (x7 : Int32) (x8 : Int32) (x9 : Int32) (x10 : Int32) (x11 : Int32) (x12 : Int32) (x13 : Int32) (x14 : Int32) (x15 : Int32) (h0 : Heap) (n0 : Nat) (Z0 : n0 ≤ h0.size) (P0 : Arv Z h0 a1 k1 .int (16 : Int32) [(.int x0), (.int x1), (.int x2), (.int x3), (.int x4), (.int x5), (.int x6), (.int x7), (.int x8), (.int x9), (.int x10), (.int x11), (.int x12), (.int x13), (.int x14), (.int x15)] (.int (0 : Int32))) :
    MetFree l (⟨"java/util/Arrays", "copyOf", "([II)[I"⟩ : MethodName) (head1 (Jvm.Cond.code (⟨"java/util/Arrays", "copyOf", "([II)[I"⟩ : MethodName) jdk_65_method_123_code 3 (some (.array .int)) :: ws) ({ frames := 1, cells := 1, slots := 32, locals := 18 } : Room)) (fun a U => a = #[(.ref a1), (.int (32 : Int32))] ∧ Z.Warmed39 U.vm ∧ U.heap = h0) (fun _ _ _ _ _ => True) (fun _ U o U' => ∃ v L, o = .returned v ∧ Qrm6 Z a1 k1 x0 x1 x2 x3 x4 x5 x6 x7 x8 x9 x10 x11 x12 x13 x14 x15 h0 n0 v U'.heap L ∧ FrameEnd U o U' L ({ frames := 1, cells := 1, slots := 32, locals := 18 } : Room).cells ({ frames := 1, cells := 1, slots := 32, locals := 18 } : Room).slots) := by
  refine MetFree.of_bodySF (plainFor_of_name pn_1) hisR ?_
  intro p e s m args below meth c s₁ Bd hml0 hP hK
  obtain ⟨rfl, hZ, hh⟩ := hP
  have hx := Bd.exec
  have hby := Bd.bytes
  have hml : c.maxLocals = 3 := hml0
  have hown : s.vm.findClass "java/util/Arrays" = some m.cls := findClass_of_methodNamed Bd.named
  have hnm := (name_of_methodNamed Bd.named Bd.method).1
  have X0 : Stand p l e ({ frames := 1, cells := 1, slots := 32, locals := 18 } : Room) s m #[(.ref a1), (.int (32 : Int32))] below meth c s₁ [] 0 0 := Stand.of_body Bd
  have e0 : s₁.heap = h0 := by rw [← hh, Bd.state]; rfl
  have N0 := Fr.nil n0
  have K0 : Keep h0 h0 [] := Keep.refl h0 _
  refine own_go (B := s₁.setTop (mkF m 0 #[.val (.ref a1), .val (.int (32 : Int32)), .unset] [])) (fun t k => castTop (efrm6 m a1) k) ?_
  refine own_go (A := s₁.setTop (mkF m 0 #[.val (.ref a1), .val (.int (32 : Int32)), .unset] [])) (B := s₁.setTop (mkF m 2 #[.val (.ref a1), .val (.int (32 : Int32)), .unset] [(.ref a1), (.int (32 : Int32))])) (fun t k => ?_) ?_
  · show Steps p.tables e below (s₁.setTop (mkF m 0 #[.val (.ref a1), .val (.int (32 : Int32)), .unset] [])) _
    refine XS.iloadN X0.here hx rfl (hb hby d6_0) rfl ?_
    show Steps p.tables e below (s₁.setTop (mkF m 1 #[.val (.ref a1), .val (.int (32 : Int32)), .unset] [(.int (32 : Int32))])) _
    refine XS.aloadN X0.here hx rfl (hb hby d6_1) rfl rfl ?_
    exact k
  obtain ⟨cl374, Ar374, q374, S374, M374, Ha374, G374⟩ := id P0
  refine own_go (A := s₁.setTop (mkF m 2 #[.val (.ref a1), .val (.int (32 : Int32)), .unset] [(.ref a1), (.int (32 : Int32))])) (B := s₁.setTop (mkF m 3 #[.val (.ref a1), .val (.int (32 : Int32)), .unset] [(.int (16 : Int32)), (.int (32 : Int32))])) (fun t k => ?_) ?_
  · refine X0.arraylength hx (by rw [e0]; exact Ar374.1) (State.isArrayOf_alike hZ.alike Ar374.2.1) (g := (mkF m 2 #[.val (.ref a1), .val (.int (32 : Int32)), .unset] [(.ref a1), (.int (32 : Int32))])) rfl rfl (hb hby d6_2) _ ?_
    rw [len_of S374 M374]
    exact k
  refine own_go (A := s₁.setTop (mkF m 3 #[.val (.ref a1), .val (.int (32 : Int32)), .unset] [(.int (16 : Int32)), (.int (32 : Int32))])) (B := s₁.setTop (mkF m 15 #[.val (.ref a1), .val (.int (32 : Int32)), .unset] [(.int (32 : Int32))])) (fun t k => ?_) ?_
  · show Steps p.tables e below (s₁.setTop (mkF m 3 #[.val (.ref a1), .val (.int (32 : Int32)), .unset] [(.int (16 : Int32)), (.int (32 : Int32))])) _
    refine XS.icmpYes X0.here hx rfl (pc0 := 3) (pc' := 14) rfl (hb hby d6_3) rfl (feq (by decide : ¬ ((32 : Int32) = (16 : Int32)))).2 (by decide) (by decide) ?_
    show Steps p.tables e below (s₁.setTop (mkF m 14 #[.val (.ref a1), .val (.int (32 : Int32)), .unset] [])) _
    refine XS.iloadN X0.here hx rfl (hb hby d6_14) rfl ?_
    exact k
  obtain ⟨T376, h376, k376, X376, e376, E376, A376, st376⟩ := newP X0 hx hZ (hw _ (List.mem_of_getElem? (i := 9) rfl)) e0 (g := (mkF m 15 #[.val (.ref a1), .val (.int (32 : Int32)), .unset] [(.int (32 : Int32))])) rfl (hb hby d6_15) rfl (by decide) (cap := 32) (by decide) (by decide) (by decide) (by decide)
  obtain ⟨b376, g376⟩ : ∃ z, z = h0.size := ⟨_, rfl⟩
  rw [← g376] at A376 st376
  have ne376_a1 : a1 ≠ b376 := Nat.ne_of_lt (Nat.lt_of_lt_of_le P0.lt (Nat.le_of_eq g376.symm))
  have low376 : n0 ≤ b376 := Nat.le_trans Z0 (Nat.le_of_eq g376.symm)
  have sz376 : h0.size ≤ b376 := Nat.le_trans K0.1 (Nat.le_of_eq g376.symm)
  have Q377 : Arv Z h376 a1 k1 .int (16 : Int32) [(.int x0), (.int x1), (.int x2), (.int x3), (.int x4), (.int x5), (.int x6), (.int x7), (.int x8), (.int x9), (.int x10), (.int x11), (.int x12), (.int x13), (.int x14), (.int x15)] (.int (0 : Int32)) := P0.ext E376
  have Z376 : n0 ≤ h376.size := Nat.le_trans Z0 E376.1
  have K376 := K0.ext E376
  have V376 : Arv Z h376 b376 k376 .int (32 : Int32) [(.int (0 : Int32)), (.int (0 : Int32)), (.int (0 : Int32)), (.int (0 : Int32)), (.int (0 : Int32)), (.int (0 : Int32)), (.int (0 : Int32)), (.int (0 : Int32)), (.int (0 : Int32)), (.int (0 : Int32)), (.int (0 : Int32)), (.int (0 : Int32)), (.int (0 : Int32)), (.int (0 : Int32)), (.int (0 : Int32)), (.int (0 : Int32)), (.int (0 : Int32)), (.int (0 : Int32)), (.int (0 : Int32)), (.int (0 : Int32)), (.int (0 : Int32)), (.int (0 : Int32)), (.int (0 : Int32)), (.int (0 : Int32)), (.int (0 : Int32)), (.int (0 : Int32)), (.int (0 : Int32)), (.int (0 : Int32)), (.int (0 : Int32)), (.int (0 : Int32)), (.int (0 : Int32)), (.int (0 : Int32))] (.int (0 : Int32)) := (Arv.new A376 (by decide)).pad (pad_rep [] (.int (0 : Int32)) 32)
  refine own_go st376 ?_
  refine own_go (A := T376.setTop (mkF m 17 #[.val (.ref a1), .val (.int (32 : Int32)), .unset] [(.ref b376)])) (B := T376.setTop (mkF m 23 #[.val (.ref a1), .val (.int (32 : Int32)), .val (.ref b376)] [(.ref a1), (.int (0 : Int32)), (.ref b376), (.int (0 : Int32)), (.ref a1)])) (fun t k => ?_) ?_
  · show Steps p.tables e below (T376.setTop (mkF m 17 #[.val (.ref a1), .val (.int (32 : Int32)), .unset] [(.ref b376)])) _
    refine XS.astoreN X376.here hx rfl (hb hby d6_17) rfl rfl (l' := #[.val (.ref a1), .val (.int (32 : Int32)), .val (.ref b376)]) rfl ?_
    show Steps p.tables e below (T376.setTop (mkF m 18 #[.val (.ref a1), .val (.int (32 : Int32)), .val (.ref b376)] [])) _
    refine XS.aloadN X376.here hx rfl (hb hby d6_18) rfl rfl ?_
    show Steps p.tables e below (T376.setTop (mkF m 19 #[.val (.ref a1), .val (.int (32 : Int32)), .val (.ref b376)] [(.ref a1)])) _
    refine XS.iconst X376.here hx rfl (hb hby d6_19) ?_
    show Steps p.tables e below (T376.setTop (mkF m 20 #[.val (.ref a1), .val (.int (32 : Int32)), .val (.ref b376)] [(.int (0 : Int32)), (.ref a1)])) _
    refine XS.aloadN X376.here hx rfl (hb hby d6_20) rfl rfl ?_
    show Steps p.tables e below (T376.setTop (mkF m 21 #[.val (.ref a1), .val (.int (32 : Int32)), .val (.ref b376)] [(.ref b376), (.int (0 : Int32)), (.ref a1)])) _
    refine XS.iconst X376.here hx rfl (hb hby d6_21) ?_
    show Steps p.tables e below (T376.setTop (mkF m 22 #[.val (.ref a1), .val (.int (32 : Int32)), .val (.ref b376)] [(.int (0 : Int32)), (.ref b376), (.int (0 : Int32)), (.ref a1)])) _
    refine XS.aloadN X376.here hx rfl (hb hby d6_22) rfl rfl ?_
    exact k
  obtain ⟨cl378, Ar378, q378, S378, M378, Ha378, G378⟩ := id Q377
  refine own_go (A := T376.setTop (mkF m 23 #[.val (.ref a1), .val (.int (32 : Int32)), .val (.ref b376)] [(.ref a1), (.int (0 : Int32)), (.ref b376), (.int (0 : Int32)), (.ref a1)])) (B := T376.setTop (mkF m 24 #[.val (.ref a1), .val (.int (32 : Int32)), .val (.ref b376)] [(.int (16 : Int32)), (.int (0 : Int32)), (.ref b376), (.int (0 : Int32)), (.ref a1)])) (fun t k => ?_) ?_
  · refine X376.arraylength hx (by rw [e376]; exact Ar378.1) (State.isArrayOf_alike hZ.alike Ar378.2.1) (g := (mkF m 23 #[.val (.ref a1), .val (.int (32 : Int32)), .val (.ref b376)] [(.ref a1), (.int (0 : Int32)), (.ref b376), (.int (0 : Int32)), (.ref a1)])) rfl rfl (hb hby d6_23) _ ?_
    rw [len_of S378 M378]
    exact k
  refine own_go (A := T376.setTop (mkF m 24 #[.val (.ref a1), .val (.int (32 : Int32)), .val (.ref b376)] [(.int (16 : Int32)), (.int (0 : Int32)), (.ref b376), (.int (0 : Int32)), (.ref a1)])) (B := T376.setTop (mkF m 25 #[.val (.ref a1), .val (.int (32 : Int32)), .val (.ref b376)] [(.int (32 : Int32)), (.int (16 : Int32)), (.int (0 : Int32)), (.ref b376), (.int (0 : Int32)), (.ref a1)])) (fun t k => ?_) ?_
  · show Steps p.tables e below (T376.setTop (mkF m 24 #[.val (.ref a1), .val (.int (32 : Int32)), .val (.ref b376)] [(.int (16 : Int32)), (.int (0 : Int32)), (.ref b376), (.int (0 : Int32)), (.ref a1)])) _
    refine XS.iloadN X376.here hx rfl (hb hby d6_24) rfl ?_
    exact k
  obtain ⟨_, _, ⟨T379, L379, k379, n379⟩, -, X379, ⟨Lc379, hQ379, l379, y379, z379⟩, st379⟩ := Jvm.LawKit.callS X376 hx (y := (⟨"java/lang/Math", "min", "(II)I"⟩ : MethodName)) hown (mvT hZ (hw _ (List.mem_of_getElem? (i := 36) rfl))) (mvT hZ (hw _ (List.mem_of_getElem? (i := 37) rfl))) (mvT hZ (hw _ (List.mem_of_getElem? (i := 38) rfl))) (mvT hZ (hw _ (List.mem_of_getElem? (i := 39) rfl))) (by decide) (backOf (W := 4) (rm7 l Z a0 hw []  h376 n0 Z376 ) hZ (hw _ (List.mem_of_getElem? (i := 39) rfl)) (hw _ (List.mem_of_getElem? (i := 38) rfl)) (by decide) (by decide)) (g := (mkF m 25 #[.val (.ref a1), .val (.int (32 : Int32)), .val (.ref b376)] [(.int (32 : Int32)), (.int (16 : Int32)), (.int (0 : Int32)), (.ref b376), (.int (0 : Int32)), (.ref a1)])) rfl (by rw [hml]; rfl) (argsL := [(.int (16 : Int32)), (.int (32 : Int32))]) (rest := [(.int (0 : Int32)), (.ref b376), (.int (0 : Int32)), (.ref a1)]) (lenOf pd_1 rfl) rfl (by show 2 * 0 + _ ≤ _; exact Nat.le_of_eq rfl) (hb hby d6_25) (fun _ _ => ⟨rfl, e376, (by decide : 1 + 0 ≤ _), (by decide : 32 + 0 ≤ _)⟩)
  dsimp only [Pt.U, Pt.locs, Pt.cells, Pt.slots] at X379 l379 y379 z379 st379 hQ379
  subst l379 y379 z379
  obtain ⟨rfl, Nq379, e379⟩ := hQ379
  have N379 := Fr.app N0 Nq379
  refine own_go (A := _) (B := T379.setTop (mkF m 28 #[.val (.ref a1), .val (.int (32 : Int32)), .val (.ref b376)] [(.int (16 : Int32)), (.int (0 : Int32)), (.ref b376), (.int (0 : Int32)), (.ref a1)])) st379 ?_
  obtain ⟨T380, h380, Lc380, X380, e380, N380, Kq380, Ua380, st380⟩ := cpA (us := [(.int x0), (.int x1), (.int x2), (.int x3), (.int x4), (.int x5), (.int x6), (.int x7), (.int x8), (.int x9), (.int x10), (.int x11), (.int x12), (.int x13), (.int x14), (.int x15)]) X379 hx hZ hown (hw _ (List.mem_of_getElem? (i := 40) rfl)) (hw _ (List.mem_of_getElem? (i := 43) rfl)) (hw _ (List.mem_of_getElem? (i := 41) rfl)) (hw _ (List.mem_of_getElem? (i := 42) rfl)) e379 Q377 V376 (Or.inl ⟨rfl, rfl⟩) (by decide) (by decide) (by decide) (by decide) (by decide) rfl (by decide) N379 low376 (g := (mkF m 28 #[.val (.ref a1), .val (.int (32 : Int32)), .val (.ref b376)] [(.int (16 : Int32)), (.int (0 : Int32)), (.ref b376), (.int (0 : Int32)), (.ref a1)])) rfl (by rw [hml]; rfl) rfl (hb hby d6_28) (by decide) (W := 0) (by show 2 * 0 + _ ≤ _; exact Nat.le_of_eq rfl) (by decide)
  have Q381 : Arv Z h380 a1 k1 .int (16 : Int32) [(.int x0), (.int x1), (.int x2), (.int x3), (.int x4), (.int x5), (.int x6), (.int x7), (.int x8), (.int x9), (.int x10), (.int x11), (.int x12), (.int x13), (.int x14), (.int x15)] (.int (0 : Int32)) := Q377.keep Kq380 (ninS ne376_a1 nin0)
  have U380 : Arv Z h380 b376 k376 .int (32 : Int32) [(.int x0), (.int x1), (.int x2), (.int x3), (.int x4), (.int x5), (.int x6), (.int x7), (.int x8), (.int x9), (.int x10), (.int x11), (.int x12), (.int x13), (.int x14), (.int x15), (.int (0 : Int32)), (.int (0 : Int32)), (.int (0 : Int32)), (.int (0 : Int32)), (.int (0 : Int32)), (.int (0 : Int32)), (.int (0 : Int32)), (.int (0 : Int32)), (.int (0 : Int32)), (.int (0 : Int32)), (.int (0 : Int32)), (.int (0 : Int32)), (.int (0 : Int32)), (.int (0 : Int32)), (.int (0 : Int32)), (.int (0 : Int32))] (.int (0 : Int32)) := Ua380
  have Z380 : n0 ≤ h380.size := Nat.le_trans Z376 Kq380.1
  have K380 : Keep h0 h380 [] := K376.trans Kq380 (allS (Or.inr sz376) all0)
  refine own_go st380 ?_
  refine own_go (A := T380.setTop (mkF m 31 #[.val (.ref a1), .val (.int (32 : Int32)), .val (.ref b376)] [])) (B := T380.setTop (mkF m 32 #[.val (.ref a1), .val (.int (32 : Int32)), .val (.ref b376)] [(.ref b376)])) (fun t k => ?_) ?_
  · show Steps p.tables e below (T380.setTop (mkF m 31 #[.val (.ref a1), .val (.int (32 : Int32)), .val (.ref b376)] [])) _
    refine XS.aloadN X380.here hx rfl (hb hby d6_31) rfl rfl ?_
    exact k
  obtain ⟨fs, hr, hrun, hended, hW, hsame⟩ := X380.leave (v := some (.ref b376)) (fun h => by rw [Bd.returns] at h; cases h)
  refine ⟨_, _, ?_, hrun, hended, _, _, rfl, ?_, ⟨_, rfl⟩, hW, hsame.mono (by decide) (by decide)⟩
  · show Steps p.tables e below (T380.setTop (mkF m 32 #[.val (.ref a1), .val (.int (32 : Int32)), .val (.ref b376)] [(.ref b376)])) _
    exact retOut X380 hx Bd.returns rfl (Or.inr (Or.inr (Or.inr (Or.inr ⟨rfl, rfl, rfl⟩)))) (hb hby d6_32) hr
  · show Qrm6 Z a1 k1 x0 x1 x2 x3 x4 x5 x6 x7 x8 x9 x10 x11 x12 x13 x14 x15 h0 n0 _ T380.heap _
    rw [e380]
    exact ⟨b376, k376, rfl, N380, K380, sz376, U380⟩
def Qrm3g (Z : State) (a1 : Addr) (p2 : Int32) (p3 : Int32) (b1 : Addr) (b2 : Addr) (k1 : ClassId) (k2 : ClassId) (x0 : Int32) (x1 : Int32) (x2 : Int32) (x3 : Int32) (x4 : Int32) (x5 : Int32) (x6 : Int32) (x7 : Int32) (x8 : Int32) (x9 : Int32) (x10 : Int32) (x11 : Int32) (x12 : Int32) (x13 : Int32) (x14 : Int32) (x15 : Int32) (y0 : Int32) (y1 : Int32) (y2 : Int32) (y3 : Int32) (y4 : Int32) (y5 : Int32) (y6 : Int32) (y7 : Int32) (y8 : Int32) (y9 : Int32) (y10 : Int32) (y11 : Int32) (y12 : Int32) (y13 : Int32) (y14 : Int32) (y15 : Int32) (h0 : Heap) (n0 : Nat) (v : Option Value) (h : Heap) (L : List Loc) : Prop := ∃ d1 : Addr, ∃ d2 : Addr, ∃ k3 : ClassId, ∃ k4 : ClassId, v = none ∧ Fr n0 L ∧ Keep h0 h [a1] ∧ h0.size ≤ d1 ∧ h0.size ≤ d2 ∧ Fld Z h a1 "com/example/axiomwright/axiomwright/Arcs" "size" "I" (.int (17 : Int32)) ∧ Fld Z h a1 "com/example/axiomwright/axiomwright/Arcs" "from" "[I" (.ref d1) ∧ Fld Z h a1 "com/example/axiomwright/axiomwright/Arcs" "to" "[I" (.ref d2) ∧ Arv Z h d1 k3 .int (32 : Int32) [(.int x0), (.int x1), (.int x2), (.int x3), (.int x4), (.int x5), (.int x6), (.int x7), (.int x8), (.int x9), (.int x10), (.int x11), (.int x12), (.int x13), (.int x14), (.int x15), (.int p2), (.int (0 : Int32)), (.int (0 : Int32)), (.int (0 : Int32)), (.int (0 : Int32)), (.int (0 : Int32)), (.int (0 : Int32)), (.int (0 : Int32)), (.int (0 : Int32)), (.int (0 : Int32)), (.int (0 : Int32)), (.int (0 : Int32)), (.int (0 : Int32)), (.int (0 : Int32)), (.int (0 : Int32)), (.int (0 : Int32))] (.int (0 : Int32)) ∧ Arv Z h d2 k4 .int (32 : Int32) [(.int y0), (.int y1), (.int y2), (.int y3), (.int y4), (.int y5), (.int y6), (.int y7), (.int y8), (.int y9), (.int y10), (.int y11), (.int y12), (.int y13), (.int y14), (.int y15), (.int p3), (.int (0 : Int32)), (.int (0 : Int32)), (.int (0 : Int32)), (.int (0 : Int32)), (.int (0 : Int32)), (.int (0 : Int32)), (.int (0 : Int32)), (.int (0 : Int32)), (.int (0 : Int32)), (.int (0 : Int32)), (.int (0 : Int32)), (.int (0 : Int32)), (.int (0 : Int32)), (.int (0 : Int32)), (.int (0 : Int32))] (.int (0 : Int32))
theorem efrm3g (m : MethodId) (x0 : Addr) (x1 : Int32) (x2 : Int32) : entryFrame m #[(.ref x0), (.int x1), (.int x2)] 3 = mkF m 0 #[.val (.ref x0), .val (.int x1), .val (.int x2)] [] := by first | (simp [entryFrame, mkF, argsToLocals, Value.category]; done) | rfl
set_option maxRecDepth 65536 in
set_option maxHeartbeats 40000000 in
theorem rm3g (l : Launch) (Z : State) (a0 : Array Value) (hw : ∀ d ∈ tables_1, d.before a0 Z = true) (ws : List Jvm.Cond) (a1 : Addr) (p2 : Int32) (p3 : Int32) (b1 : Addr) (b2 : Addr) (k1 : ClassId) (k2 : ClassId) (x0 : Int32) (x1 : Int32) (x2 : Int32) (x3 : Int32) (x4 : Int32) (x5 : Int32) (x6 : Int32) (x7 : Int32) (x8 : Int32) (x9 : Int32) (x10 : Int32) (x11 : Int32) (x12 : Int32) (x13 : Int32) (x14 : Int32) (x15 : Int32) (y0 : Int32) (y1 : Int32) (y2 : Int32) (y3 : Int32) (y4 : Int32) (y5 : Int32) (y6 : Int32) (y7 : Int32) (y8 : Int32) (y9 : Int32) (y10 : Int32) (y11 : Int32) (y12 : Int32) (y13 : Int32) (y14 : Int32) (y15 : Int32) (h0 : Heap) (n0 : Nat) (Z0 : n0 ≤ h0.size) (P0 : Exa Z h0 a1 "com/example/axiomwright/axiomwright/Arcs") (P1 : Fld Z h0 a1 "com/example/axiomwright/axiomwright/Arcs" "size" "I" (.int (16 : Int32))) (P2 : Fld Z h0 a1 "com/example/axiomwright/axiomwright/Arcs" "from" "[I" (.ref b1)) (P3 : Fld Z h0 a1 "com/example/axiomwright/axiomwright/Arcs" "to" "[I" (.ref b2)) (P4 : Arv Z h0 b1 k1 .int (16 : Int32) [(.int x0), (.int x1), (.int x2), (.int x3), (.int x4), (.int x5), (.int x6), (.int x7), (.int x8), (.int x9), (.int x10), (.int x11), (.int x12), (.int x13), (.int x14), (.int x15)] (.int (0 : Int32))) (P5 : Arv Z h0 b2 k2 .int (16 : Int32) [(.int y0), (.int y1), (.int y2), (.int y3), (.int y4), (.int y5), (.int y6), (.int y7), (.int y8), (.int y9), (.int y10), (.int y11), (.int y12), (.int y13), (.int y14), (.int y15)] (.int (0 : Int32))) (g_a1 : n0 ≤ a1) (ne_b1_a1 : b1 ≠ a1) (ne_b2_a1 : b2 ≠ a1) :
    MetFree l (⟨"com/example/axiomwright/axiomwright/Arcs", "add", "(II)V"⟩ : MethodName) (head1 (Jvm.Cond.code (⟨"com/example/axiomwright/axiomwright/Arcs", "add", "(II)V"⟩ : MethodName) prog_2_method_3_code 3 none :: ws) ({ frames := 2, cells := 2, slots := 64, locals := 33 } : Room)) (fun a U => a = #[(.ref a1), (.int p2), (.int p3)] ∧ Z.Warmed39 U.vm ∧ U.heap = h0) (fun _ _ _ _ _ => True) (fun _ U o U' => ∃ v L, o = .returned v ∧ Qrm3g Z a1 p2 p3 b1 b2 k1 k2 x0 x1 x2 x3 x4 x5 x6 x7 x8 x9 x10 x11 x12 x13 x14 x15 y0 y1 y2 y3 y4 y5 y6 y7 y8 y9 y10 y11 y12 y13 y14 y15 h0 n0 v U'.heap L ∧ FrameEnd U o U' L ({ frames := 2, cells := 2, slots := 64, locals := 33 } : Room).cells ({ frames := 2, cells := 2, slots := 64, locals := 33 } : Room).slots) := by
  refine MetFree.of_bodySF (plainFor_of_name pn_0) hisR ?_
  intro p e s m args below meth c s₁ Bd hml0 hP hK
  obtain ⟨rfl, hZ, hh⟩ := hP
  have hx := Bd.exec
  have hby := Bd.bytes
  have hml : c.maxLocals = 3 := hml0
  have hown : s.vm.findClass "com/example/axiomwright/axiomwright/Arcs" = some m.cls := findClass_of_methodNamed Bd.named
  have hnm := (name_of_methodNamed Bd.named Bd.method).1
  have X0 : Stand p l e ({ frames := 2, cells := 2, slots := 64, locals := 33 } : Room) s m #[(.ref a1), (.int p2), (.int p3)] below meth c s₁ [] 0 0 := Stand.of_body Bd
  have e0 : s₁.heap = h0 := by rw [← hh, Bd.state]; rfl
  have N0 := Fr.nil n0
  have K0 : Keep h0 h0 [a1] := Keep.refl h0 _
  refine own_go (B := s₁.setTop (mkF m 0 #[.val (.ref a1), .val (.int p2), .val (.int p3)] [])) (fun t k => castTop (efrm3g m a1 p2 p3) k) ?_
  refine own_go (A := s₁.setTop (mkF m 0 #[.val (.ref a1), .val (.int p2), .val (.int p3)] [])) (B := s₁.setTop (mkF m 1 #[.val (.ref a1), .val (.int p2), .val (.int p3)] [(.ref a1)])) (fun t k => ?_) ?_
  · show Steps p.tables e below (s₁.setTop (mkF m 0 #[.val (.ref a1), .val (.int p2), .val (.int p3)] [])) _
    refine XS.aloadN X0.here hx rfl (hb hby d3_0) rfl rfl ?_
    exact k
  obtain ⟨T382, X382, e382, st382⟩ := getF X0 hx hZ hown (host := "") (Or.inl (hw _ (List.mem_of_getElem? (i := 19) rfl))) Via.refl e0 P1 (g := (mkF m 1 #[.val (.ref a1), .val (.int p2), .val (.int p3)] [(.ref a1)])) rfl rfl (hb hby d3_1)
  refine own_go st382 ?_
  refine own_go (A := T382.setTop (mkF m 4 #[.val (.ref a1), .val (.int p2), .val (.int p3)] [(.int (16 : Int32))])) (B := T382.setTop (mkF m 5 #[.val (.ref a1), .val (.int p2), .val (.int p3)] [(.ref a1), (.int (16 : Int32))])) (fun t k => ?_) ?_
  · show Steps p.tables e below (T382.setTop (mkF m 4 #[.val (.ref a1), .val (.int p2), .val (.int p3)] [(.int (16 : Int32))])) _
    refine XS.aloadN X382.here hx rfl (hb hby d3_4) rfl rfl ?_
    exact k
  obtain ⟨T383, X383, e383, st383⟩ := getF X382 hx hZ hown (host := "") (Or.inl (hw _ (List.mem_of_getElem? (i := 10) rfl))) Via.refl e382 P2 (g := (mkF m 5 #[.val (.ref a1), .val (.int p2), .val (.int p3)] [(.ref a1), (.int (16 : Int32))])) rfl rfl (hb hby d3_5)
  refine own_go st383 ?_
  obtain ⟨cl384, Ar384, q384, S384, M384, Ha384, G384⟩ := id P4
  refine own_go (A := T383.setTop (mkF m 8 #[.val (.ref a1), .val (.int p2), .val (.int p3)] [(.ref b1), (.int (16 : Int32))])) (B := T383.setTop (mkF m 9 #[.val (.ref a1), .val (.int p2), .val (.int p3)] [(.int (16 : Int32)), (.int (16 : Int32))])) (fun t k => ?_) ?_
  · refine X383.arraylength hx (by rw [e383]; exact Ar384.1) (State.isArrayOf_alike hZ.alike Ar384.2.1) (g := (mkF m 8 #[.val (.ref a1), .val (.int p2), .val (.int p3)] [(.ref b1), (.int (16 : Int32))])) rfl rfl (hb hby d3_8) _ ?_
    rw [len_of S384 M384]
    exact k
  refine own_go (A := T383.setTop (mkF m 9 #[.val (.ref a1), .val (.int p2), .val (.int p3)] [(.int (16 : Int32)), (.int (16 : Int32))])) (B := T383.setTop (mkF m 14 #[.val (.ref a1), .val (.int p2), .val (.int p3)] [(.ref a1), (.ref a1)])) (fun t k => ?_) ?_
  · show Steps p.tables e below (T383.setTop (mkF m 9 #[.val (.ref a1), .val (.int p2), .val (.int p3)] [(.int (16 : Int32)), (.int (16 : Int32))])) _
    refine XS.icmpNo X383.here hx rfl (hb hby d3_9) rfl (teq (rfl : (16 : Int32) = (16 : Int32))).2 ?_
    show Steps p.tables e below (T383.setTop (mkF m 12 #[.val (.ref a1), .val (.int p2), .val (.int p3)] [])) _
    refine XS.aloadN X383.here hx rfl (hb hby d3_12) rfl rfl ?_
    show Steps p.tables e below (T383.setTop (mkF m 13 #[.val (.ref a1), .val (.int p2), .val (.int p3)] [(.ref a1)])) _
    refine XS.aloadN X383.here hx rfl (hb hby d3_13) rfl rfl ?_
    exact k
  obtain ⟨T386, X386, e386, st386⟩ := getF X383 hx hZ hown (host := "") (Or.inl (hw _ (List.mem_of_getElem? (i := 10) rfl))) Via.refl e383 P2 (g := (mkF m 14 #[.val (.ref a1), .val (.int p2), .val (.int p3)] [(.ref a1), (.ref a1)])) rfl rfl (hb hby d3_14)
  refine own_go st386 ?_
  refine own_go (A := T386.setTop (mkF m 17 #[.val (.ref a1), .val (.int p2), .val (.int p3)] [(.ref b1), (.ref a1)])) (B := T386.setTop (mkF m 19 #[.val (.ref a1), .val (.int p2), .val (.int p3)] [(.ref a1), (.int (2 : Int32)), (.ref b1), (.ref a1)])) (fun t k => ?_) ?_
  · show Steps p.tables e below (T386.setTop (mkF m 17 #[.val (.ref a1), .val (.int p2), .val (.int p3)] [(.ref b1), (.ref a1)])) _
    refine XS.iconst X386.here hx rfl (hb hby d3_17) ?_
    show Steps p.tables e below (T386.setTop (mkF m 18 #[.val (.ref a1), .val (.int p2), .val (.int p3)] [(.int (2 : Int32)), (.ref b1), (.ref a1)])) _
    refine XS.aloadN X386.here hx rfl (hb hby d3_18) rfl rfl ?_
    exact k
  obtain ⟨T387, X387, e387, st387⟩ := getF X386 hx hZ hown (host := "") (Or.inl (hw _ (List.mem_of_getElem? (i := 19) rfl))) Via.refl e386 P1 (g := (mkF m 19 #[.val (.ref a1), .val (.int p2), .val (.int p3)] [(.ref a1), (.int (2 : Int32)), (.ref b1), (.ref a1)])) rfl rfl (hb hby d3_19)
  refine own_go st387 ?_
  refine own_go (A := T387.setTop (mkF m 22 #[.val (.ref a1), .val (.int p2), .val (.int p3)] [(.int (16 : Int32)), (.int (2 : Int32)), (.ref b1), (.ref a1)])) (B := T387.setTop (mkF m 23 #[.val (.ref a1), .val (.int p2), .val (.int p3)] [(.int (32 : Int32)), (.ref b1), (.ref a1)])) (fun t k => ?_) ?_
  · show Steps p.tables e below (T387.setTop (mkF m 22 #[.val (.ref a1), .val (.int p2), .val (.int p3)] [(.int (16 : Int32)), (.int (2 : Int32)), (.ref b1), (.ref a1)])) _
    refine XS.imul X387.here hx rfl (hb hby d3_22) rfl ?_
    exact k
  obtain ⟨_, _, ⟨T388, L388, k388, n388⟩, -, X388, ⟨Lc388, hQ388, l388, y388, z388⟩, st388⟩ := Jvm.LawKit.callS X387 hx (y := (⟨"java/util/Arrays", "copyOf", "([II)[I"⟩ : MethodName)) hown (mvT hZ (hw _ (List.mem_of_getElem? (i := 32) rfl))) (mvT hZ (hw _ (List.mem_of_getElem? (i := 33) rfl))) (mvT hZ (hw _ (List.mem_of_getElem? (i := 34) rfl))) (mvT hZ (hw _ (List.mem_of_getElem? (i := 35) rfl))) (by decide) (backOf (W := 1) (rm6 l Z a0 hw [] b1 k1 x0 x1 x2 x3 x4 x5 x6 x7 x8 x9 x10 x11 x12 x13 x14 x15 h0 n0 Z0 P4) hZ (hw _ (List.mem_of_getElem? (i := 35) rfl)) (hw _ (List.mem_of_getElem? (i := 34) rfl)) (by decide) (by decide)) (g := (mkF m 23 #[.val (.ref a1), .val (.int p2), .val (.int p3)] [(.int (32 : Int32)), (.ref b1), (.ref a1)])) rfl (by rw [hml]; rfl) (argsL := [(.ref b1), (.int (32 : Int32))]) (rest := [(.ref a1)]) (lenOf pd_2 rfl) rfl (by show 2 * 0 + _ ≤ _; exact Nat.le_of_eq rfl) (hb hby d3_23) (fun _ _ => ⟨rfl, e387, (by decide : 0 + 1 ≤ _), (by decide : 0 + 32 ≤ _)⟩)
  dsimp only [Pt.U, Pt.locs, Pt.cells, Pt.slots] at X388 l388 y388 z388 st388 hQ388
  subst l388 y388 z388
  obtain ⟨b_388, k2_388, rfl, Nq388, Kq388, sq_b_388, U388_0⟩ := hQ388
  have ne_a1_b_388 : a1 ≠ b_388 := Nat.ne_of_lt (Nat.lt_of_lt_of_le P0.lt sq_b_388)
  have ne_b1_b_388 : b1 ≠ b_388 := Nat.ne_of_lt (Nat.lt_of_lt_of_le P4.lt sq_b_388)
  have ne_b2_b_388 : b2 ≠ b_388 := Nat.ne_of_lt (Nat.lt_of_lt_of_le P5.lt sq_b_388)
  have low_b_388 : n0 ≤ b_388 := Nat.le_trans Z0 sq_b_388
  have sz_b_388 : h0.size ≤ b_388 := Nat.le_trans K0.1 sq_b_388
  have Q389 : Exa Z T388.heap a1 "com/example/axiomwright/axiomwright/Arcs" := P0.keep Kq388
  have Q390 : Fld Z T388.heap a1 "com/example/axiomwright/axiomwright/Arcs" "size" "I" (.int (16 : Int32)) := P1.keep Kq388 nin0
  have Q391 : Fld Z T388.heap a1 "com/example/axiomwright/axiomwright/Arcs" "from" "[I" (.ref b1) := P2.keep Kq388 nin0
  have Q392 : Fld Z T388.heap a1 "com/example/axiomwright/axiomwright/Arcs" "to" "[I" (.ref b2) := P3.keep Kq388 nin0
  have Q393 : Arv Z T388.heap b1 k1 .int (16 : Int32) [(.int x0), (.int x1), (.int x2), (.int x3), (.int x4), (.int x5), (.int x6), (.int x7), (.int x8), (.int x9), (.int x10), (.int x11), (.int x12), (.int x13), (.int x14), (.int x15)] (.int (0 : Int32)) := P4.keep Kq388 nin0
  have Q394 : Arv Z T388.heap b2 k2 .int (16 : Int32) [(.int y0), (.int y1), (.int y2), (.int y3), (.int y4), (.int y5), (.int y6), (.int y7), (.int y8), (.int y9), (.int y10), (.int y11), (.int y12), (.int y13), (.int y14), (.int y15)] (.int (0 : Int32)) := P5.keep Kq388 nin0
  have Z388 : n0 ≤ T388.heap.size := Nat.le_trans Z0 Kq388.1
  have K388 : Keep h0 T388.heap [a1] := K0.trans Kq388 all0
  have N388 := Fr.app N0 Nq388
  refine own_go (A := _) (B := T388.setTop (mkF m 26 #[.val (.ref a1), .val (.int p2), .val (.int p3)] [(.ref b_388), (.ref a1)])) st388 ?_
  obtain ⟨T395, h395, X395, e395, W395, st395⟩ := putF X388 hx hZ hown (host := "") (Or.inl (hw _ (List.mem_of_getElem? (i := 10) rfl))) Via.refl rfl Q391 Q389 (Or.inl (hw _ (List.mem_of_getElem? (i := 11) rfl))) (hw _ (List.mem_of_getElem? (i := 1) rfl)) (ty := (.array .int)) (by decide) rfl rfl (g := (mkF m 26 #[.val (.ref a1), .val (.int p2), .val (.int p3)] [(.ref b_388), (.ref a1)])) rfl rfl (hb hby d3_26)
  have Q396 : Exa Z h395 a1 "com/example/axiomwright/axiomwright/Arcs" := Q389.wr W395
  have Q397 : Fld Z h395 a1 "com/example/axiomwright/axiomwright/Arcs" "size" "I" (.int (16 : Int32)) := Q390.other W395 (Or.inr (slot_ne (Or.inl (hw _ (List.mem_of_getElem? (i := 20) rfl))) (Or.inl (hw _ (List.mem_of_getElem? (i := 11) rfl))) (by decide) (t := .int) (t' := (.array .int)) (by decide) (by decide)))
  have Q398 : Fld Z h395 a1 "com/example/axiomwright/axiomwright/Arcs" "to" "[I" (.ref b2) := Q392.other W395 (Or.inr (slot_ne (Or.inl (hw _ (List.mem_of_getElem? (i := 13) rfl))) (Or.inl (hw _ (List.mem_of_getElem? (i := 11) rfl))) (by decide) (t := (.array .int)) (t' := (.array .int)) (by decide) (by decide)))
  have Q399 : Arv Z h395 b1 k1 .int (16 : Int32) [(.int x0), (.int x1), (.int x2), (.int x3), (.int x4), (.int x5), (.int x6), (.int x7), (.int x8), (.int x9), (.int x10), (.int x11), (.int x12), (.int x13), (.int x14), (.int x15)] (.int (0 : Int32)) := Q393.other W395 ne_b1_a1
  have Q400 : Arv Z h395 b2 k2 .int (16 : Int32) [(.int y0), (.int y1), (.int y2), (.int y3), (.int y4), (.int y5), (.int y6), (.int y7), (.int y8), (.int y9), (.int y10), (.int y11), (.int y12), (.int y13), (.int y14), (.int y15)] (.int (0 : Int32)) := Q394.other W395 ne_b2_a1
  have Q401 : Arv Z h395 b_388 k2_388 .int (32 : Int32) [(.int x0), (.int x1), (.int x2), (.int x3), (.int x4), (.int x5), (.int x6), (.int x7), (.int x8), (.int x9), (.int x10), (.int x11), (.int x12), (.int x13), (.int x14), (.int x15), (.int (0 : Int32)), (.int (0 : Int32)), (.int (0 : Int32)), (.int (0 : Int32)), (.int (0 : Int32)), (.int (0 : Int32)), (.int (0 : Int32)), (.int (0 : Int32)), (.int (0 : Int32)), (.int (0 : Int32)), (.int (0 : Int32)), (.int (0 : Int32)), (.int (0 : Int32)), (.int (0 : Int32)), (.int (0 : Int32)), (.int (0 : Int32))] (.int (0 : Int32)) := U388_0.other W395 (Ne.symm ne_a1_b_388)
  have U395 : Fld Z h395 a1 "com/example/axiomwright/axiomwright/Arcs" "from" "[I" (.ref b_388) := Q391.same W395
  have Z395 : n0 ≤ h395.size := Nat.le_trans Z388 (Keep.of_wr W395).1
  have N395 := Fr.snoc X395 N388 g_a1
  have K395 := K388.wr W395 (Or.inl (List.mem_of_getElem? (i := 0) rfl))
  refine own_go st395 ?_
  refine own_go (A := T395.setTop (mkF m 29 #[.val (.ref a1), .val (.int p2), .val (.int p3)] [])) (B := T395.setTop (mkF m 31 #[.val (.ref a1), .val (.int p2), .val (.int p3)] [(.ref a1), (.ref a1)])) (fun t k => ?_) ?_
  · show Steps p.tables e below (T395.setTop (mkF m 29 #[.val (.ref a1), .val (.int p2), .val (.int p3)] [])) _
    refine XS.aloadN X395.here hx rfl (hb hby d3_29) rfl rfl ?_
    show Steps p.tables e below (T395.setTop (mkF m 30 #[.val (.ref a1), .val (.int p2), .val (.int p3)] [(.ref a1)])) _
    refine XS.aloadN X395.here hx rfl (hb hby d3_30) rfl rfl ?_
    exact k
  obtain ⟨T402, X402, e402, st402⟩ := getF X395 hx hZ hown (host := "") (Or.inl (hw _ (List.mem_of_getElem? (i := 12) rfl))) Via.refl e395 Q398 (g := (mkF m 31 #[.val (.ref a1), .val (.int p2), .val (.int p3)] [(.ref a1), (.ref a1)])) rfl rfl (hb hby d3_31)
  refine own_go st402 ?_
  refine own_go (A := T402.setTop (mkF m 34 #[.val (.ref a1), .val (.int p2), .val (.int p3)] [(.ref b2), (.ref a1)])) (B := T402.setTop (mkF m 36 #[.val (.ref a1), .val (.int p2), .val (.int p3)] [(.ref a1), (.int (2 : Int32)), (.ref b2), (.ref a1)])) (fun t k => ?_) ?_
  · show Steps p.tables e below (T402.setTop (mkF m 34 #[.val (.ref a1), .val (.int p2), .val (.int p3)] [(.ref b2), (.ref a1)])) _
    refine XS.iconst X402.here hx rfl (hb hby d3_34) ?_
    show Steps p.tables e below (T402.setTop (mkF m 35 #[.val (.ref a1), .val (.int p2), .val (.int p3)] [(.int (2 : Int32)), (.ref b2), (.ref a1)])) _
    refine XS.aloadN X402.here hx rfl (hb hby d3_35) rfl rfl ?_
    exact k
  obtain ⟨T403, X403, e403, st403⟩ := getF X402 hx hZ hown (host := "") (Or.inl (hw _ (List.mem_of_getElem? (i := 19) rfl))) Via.refl e402 Q397 (g := (mkF m 36 #[.val (.ref a1), .val (.int p2), .val (.int p3)] [(.ref a1), (.int (2 : Int32)), (.ref b2), (.ref a1)])) rfl rfl (hb hby d3_36)
  refine own_go st403 ?_
  refine own_go (A := T403.setTop (mkF m 39 #[.val (.ref a1), .val (.int p2), .val (.int p3)] [(.int (16 : Int32)), (.int (2 : Int32)), (.ref b2), (.ref a1)])) (B := T403.setTop (mkF m 40 #[.val (.ref a1), .val (.int p2), .val (.int p3)] [(.int (32 : Int32)), (.ref b2), (.ref a1)])) (fun t k => ?_) ?_
  · show Steps p.tables e below (T403.setTop (mkF m 39 #[.val (.ref a1), .val (.int p2), .val (.int p3)] [(.int (16 : Int32)), (.int (2 : Int32)), (.ref b2), (.ref a1)])) _
    refine XS.imul X403.here hx rfl (hb hby d3_39) rfl ?_
    exact k
  obtain ⟨_, _, ⟨T404, L404, k404, n404⟩, -, X404, ⟨Lc404, hQ404, l404, y404, z404⟩, st404⟩ := Jvm.LawKit.callS X403 hx (y := (⟨"java/util/Arrays", "copyOf", "([II)[I"⟩ : MethodName)) hown (mvT hZ (hw _ (List.mem_of_getElem? (i := 32) rfl))) (mvT hZ (hw _ (List.mem_of_getElem? (i := 33) rfl))) (mvT hZ (hw _ (List.mem_of_getElem? (i := 34) rfl))) (mvT hZ (hw _ (List.mem_of_getElem? (i := 35) rfl))) (by decide) (backOf (W := 1) (rm6 l Z a0 hw [] b2 k2 y0 y1 y2 y3 y4 y5 y6 y7 y8 y9 y10 y11 y12 y13 y14 y15 h395 n0 Z395 Q400) hZ (hw _ (List.mem_of_getElem? (i := 35) rfl)) (hw _ (List.mem_of_getElem? (i := 34) rfl)) (by decide) (by decide)) (g := (mkF m 40 #[.val (.ref a1), .val (.int p2), .val (.int p3)] [(.int (32 : Int32)), (.ref b2), (.ref a1)])) rfl (by rw [hml]; rfl) (argsL := [(.ref b2), (.int (32 : Int32))]) (rest := [(.ref a1)]) (lenOf pd_2 rfl) rfl (by show 2 * 0 + _ ≤ _; exact Nat.le_of_eq rfl) (hb hby d3_40) (fun _ _ => ⟨rfl, e403, (by decide : 1 + 1 ≤ _), (by decide : 32 + 32 ≤ _)⟩)
  dsimp only [Pt.U, Pt.locs, Pt.cells, Pt.slots] at X404 l404 y404 z404 st404 hQ404
  subst l404 y404 z404
  obtain ⟨b_404, k2_404, rfl, Nq404, Kq404, sq_b_404, U404_0⟩ := hQ404
  have ne_a1_b_404 : a1 ≠ b_404 := Nat.ne_of_lt (Nat.lt_of_lt_of_le Q396.lt sq_b_404)
  have ne_b1_b_404 : b1 ≠ b_404 := Nat.ne_of_lt (Nat.lt_of_lt_of_le Q399.lt sq_b_404)
  have ne_b2_b_404 : b2 ≠ b_404 := Nat.ne_of_lt (Nat.lt_of_lt_of_le Q400.lt sq_b_404)
  have ne_b_388_b_404 : b_388 ≠ b_404 := Nat.ne_of_lt (Nat.lt_of_lt_of_le Q401.lt sq_b_404)
  have low_b_404 : n0 ≤ b_404 := Nat.le_trans Z395 sq_b_404
  have sz_b_404 : h0.size ≤ b_404 := Nat.le_trans K395.1 sq_b_404
  have Q405 : Exa Z T404.heap a1 "com/example/axiomwright/axiomwright/Arcs" := Q396.keep Kq404
  have Q406 : Fld Z T404.heap a1 "com/example/axiomwright/axiomwright/Arcs" "size" "I" (.int (16 : Int32)) := Q397.keep Kq404 nin0
  have Q407 : Fld Z T404.heap a1 "com/example/axiomwright/axiomwright/Arcs" "to" "[I" (.ref b2) := Q398.keep Kq404 nin0
  have Q408 : Arv Z T404.heap b1 k1 .int (16 : Int32) [(.int x0), (.int x1), (.int x2), (.int x3), (.int x4), (.int x5), (.int x6), (.int x7), (.int x8), (.int x9), (.int x10), (.int x11), (.int x12), (.int x13), (.int x14), (.int x15)] (.int (0 : Int32)) := Q399.keep Kq404 nin0
  have Q409 : Arv Z T404.heap b2 k2 .int (16 : Int32) [(.int y0), (.int y1), (.int y2), (.int y3), (.int y4), (.int y5), (.int y6), (.int y7), (.int y8), (.int y9), (.int y10), (.int y11), (.int y12), (.int y13), (.int y14), (.int y15)] (.int (0 : Int32)) := Q400.keep Kq404 nin0
  have Q410 : Arv Z T404.heap b_388 k2_388 .int (32 : Int32) [(.int x0), (.int x1), (.int x2), (.int x3), (.int x4), (.int x5), (.int x6), (.int x7), (.int x8), (.int x9), (.int x10), (.int x11), (.int x12), (.int x13), (.int x14), (.int x15), (.int (0 : Int32)), (.int (0 : Int32)), (.int (0 : Int32)), (.int (0 : Int32)), (.int (0 : Int32)), (.int (0 : Int32)), (.int (0 : Int32)), (.int (0 : Int32)), (.int (0 : Int32)), (.int (0 : Int32)), (.int (0 : Int32)), (.int (0 : Int32)), (.int (0 : Int32)), (.int (0 : Int32)), (.int (0 : Int32)), (.int (0 : Int32))] (.int (0 : Int32)) := Q401.keep Kq404 nin0
  have Q411 : Fld Z T404.heap a1 "com/example/axiomwright/axiomwright/Arcs" "from" "[I" (.ref b_388) := U395.keep Kq404 nin0
  have Z404 : n0 ≤ T404.heap.size := Nat.le_trans Z395 Kq404.1
  have K404 : Keep h0 T404.heap [a1] := K395.trans Kq404 all0
  have N404 := Fr.app N395 Nq404
  refine own_go (A := _) (B := T404.setTop (mkF m 43 #[.val (.ref a1), .val (.int p2), .val (.int p3)] [(.ref b_404), (.ref a1)])) st404 ?_
  obtain ⟨T412, h412, X412, e412, W412, st412⟩ := putF X404 hx hZ hown (host := "") (Or.inl (hw _ (List.mem_of_getElem? (i := 12) rfl))) Via.refl rfl Q407 Q405 (Or.inl (hw _ (List.mem_of_getElem? (i := 13) rfl))) (hw _ (List.mem_of_getElem? (i := 1) rfl)) (ty := (.array .int)) (by decide) rfl rfl (g := (mkF m 43 #[.val (.ref a1), .val (.int p2), .val (.int p3)] [(.ref b_404), (.ref a1)])) rfl rfl (hb hby d3_43)
  have Q413 : Exa Z h412 a1 "com/example/axiomwright/axiomwright/Arcs" := Q405.wr W412
  have Q414 : Fld Z h412 a1 "com/example/axiomwright/axiomwright/Arcs" "size" "I" (.int (16 : Int32)) := Q406.other W412 (Or.inr (slot_ne (Or.inl (hw _ (List.mem_of_getElem? (i := 20) rfl))) (Or.inl (hw _ (List.mem_of_getElem? (i := 13) rfl))) (by decide) (t := .int) (t' := (.array .int)) (by decide) (by decide)))
  have Q415 : Arv Z h412 b1 k1 .int (16 : Int32) [(.int x0), (.int x1), (.int x2), (.int x3), (.int x4), (.int x5), (.int x6), (.int x7), (.int x8), (.int x9), (.int x10), (.int x11), (.int x12), (.int x13), (.int x14), (.int x15)] (.int (0 : Int32)) := Q408.other W412 ne_b1_a1
  have Q416 : Arv Z h412 b2 k2 .int (16 : Int32) [(.int y0), (.int y1), (.int y2), (.int y3), (.int y4), (.int y5), (.int y6), (.int y7), (.int y8), (.int y9), (.int y10), (.int y11), (.int y12), (.int y13), (.int y14), (.int y15)] (.int (0 : Int32)) := Q409.other W412 ne_b2_a1
  have Q417 : Arv Z h412 b_388 k2_388 .int (32 : Int32) [(.int x0), (.int x1), (.int x2), (.int x3), (.int x4), (.int x5), (.int x6), (.int x7), (.int x8), (.int x9), (.int x10), (.int x11), (.int x12), (.int x13), (.int x14), (.int x15), (.int (0 : Int32)), (.int (0 : Int32)), (.int (0 : Int32)), (.int (0 : Int32)), (.int (0 : Int32)), (.int (0 : Int32)), (.int (0 : Int32)), (.int (0 : Int32)), (.int (0 : Int32)), (.int (0 : Int32)), (.int (0 : Int32)), (.int (0 : Int32)), (.int (0 : Int32)), (.int (0 : Int32)), (.int (0 : Int32)), (.int (0 : Int32))] (.int (0 : Int32)) := Q410.other W412 (Ne.symm ne_a1_b_388)
  have Q418 : Fld Z h412 a1 "com/example/axiomwright/axiomwright/Arcs" "from" "[I" (.ref b_388) := Q411.other W412 (Or.inr (slot_ne (Or.inl (hw _ (List.mem_of_getElem? (i := 11) rfl))) (Or.inl (hw _ (List.mem_of_getElem? (i := 13) rfl))) (by decide) (t := (.array .int)) (t' := (.array .int)) (by decide) (by decide)))
  have Q419 : Arv Z h412 b_404 k2_404 .int (32 : Int32) [(.int y0), (.int y1), (.int y2), (.int y3), (.int y4), (.int y5), (.int y6), (.int y7), (.int y8), (.int y9), (.int y10), (.int y11), (.int y12), (.int y13), (.int y14), (.int y15), (.int (0 : Int32)), (.int (0 : Int32)), (.int (0 : Int32)), (.int (0 : Int32)), (.int (0 : Int32)), (.int (0 : Int32)), (.int (0 : Int32)), (.int (0 : Int32)), (.int (0 : Int32)), (.int (0 : Int32)), (.int (0 : Int32)), (.int (0 : Int32)), (.int (0 : Int32)), (.int (0 : Int32)), (.int (0 : Int32)), (.int (0 : Int32))] (.int (0 : Int32)) := U404_0.other W412 (Ne.symm ne_a1_b_404)
  have U412 : Fld Z h412 a1 "com/example/axiomwright/axiomwright/Arcs" "to" "[I" (.ref b_404) := Q407.same W412
  have Z412 : n0 ≤ h412.size := Nat.le_trans Z404 (Keep.of_wr W412).1
  have N412 := Fr.snoc X412 N404 g_a1
  have K412 := K404.wr W412 (Or.inl (List.mem_of_getElem? (i := 0) rfl))
  refine own_go st412 ?_
  refine own_go (A := T412.setTop (mkF m 46 #[.val (.ref a1), .val (.int p2), .val (.int p3)] [])) (B := T412.setTop (mkF m 47 #[.val (.ref a1), .val (.int p2), .val (.int p3)] [(.ref a1)])) (fun t k => ?_) ?_
  · show Steps p.tables e below (T412.setTop (mkF m 46 #[.val (.ref a1), .val (.int p2), .val (.int p3)] [])) _
    refine XS.aloadN X412.here hx rfl (hb hby d3_46) rfl rfl ?_
    exact k
  obtain ⟨T420, X420, e420, st420⟩ := getF X412 hx hZ hown (host := "") (Or.inl (hw _ (List.mem_of_getElem? (i := 10) rfl))) Via.refl e412 Q418 (g := (mkF m 47 #[.val (.ref a1), .val (.int p2), .val (.int p3)] [(.ref a1)])) rfl rfl (hb hby d3_47)
  refine own_go st420 ?_
  refine own_go (A := T420.setTop (mkF m 50 #[.val (.ref a1), .val (.int p2), .val (.int p3)] [(.ref b_388)])) (B := T420.setTop (mkF m 51 #[.val (.ref a1), .val (.int p2), .val (.int p3)] [(.ref a1), (.ref b_388)])) (fun t k => ?_) ?_
  · show Steps p.tables e below (T420.setTop (mkF m 50 #[.val (.ref a1), .val (.int p2), .val (.int p3)] [(.ref b_388)])) _
    refine XS.aloadN X420.here hx rfl (hb hby d3_50) rfl rfl ?_
    exact k
  obtain ⟨T421, X421, e421, st421⟩ := getF X420 hx hZ hown (host := "") (Or.inl (hw _ (List.mem_of_getElem? (i := 19) rfl))) Via.refl e420 Q414 (g := (mkF m 51 #[.val (.ref a1), .val (.int p2), .val (.int p3)] [(.ref a1), (.ref b_388)])) rfl rfl (hb hby d3_51)
  refine own_go st421 ?_
  refine own_go (A := T421.setTop (mkF m 54 #[.val (.ref a1), .val (.int p2), .val (.int p3)] [(.int (16 : Int32)), (.ref b_388)])) (B := T421.setTop (mkF m 55 #[.val (.ref a1), .val (.int p2), .val (.int p3)] [(.int p2), (.int (16 : Int32)), (.ref b_388)])) (fun t k => ?_) ?_
  · show Steps p.tables e below (T421.setTop (mkF m 54 #[.val (.ref a1), .val (.int p2), .val (.int p3)] [(.int (16 : Int32)), (.ref b_388)])) _
    refine XS.iloadN X421.here hx rfl (hb hby d3_54) rfl ?_
    exact k
  obtain ⟨cl422, Ar422, q422, S422, M422, Ha422, G422⟩ := Q417
  have hin422 : ¬ ((16 : Int32) < 0 ∨ cl422.slots.size ≤ ((16 : Int32)).toNatClampNeg) := inb_of S422 ⟨by decide, by decide⟩
  obtain ⟨T422, h422, X422, e422, W422, st422⟩ := stI X421 hx hZ e421 Ar422 (j := (16 : Int32)) hin422 (g := (mkF m 55 #[.val (.ref a1), .val (.int p2), .val (.int p3)] [(.int p2), (.int (16 : Int32)), (.ref b_388)])) rfl rfl (hb hby d3_55)
  have Q423 : Exa Z h422 a1 "com/example/axiomwright/axiomwright/Arcs" := Q413.wr W422
  have Q424 : Fld Z h422 a1 "com/example/axiomwright/axiomwright/Arcs" "size" "I" (.int (16 : Int32)) := Q414.other W422 (Or.inl ne_a1_b_388)
  have Q425 : Arv Z h422 b1 k1 .int (16 : Int32) [(.int x0), (.int x1), (.int x2), (.int x3), (.int x4), (.int x5), (.int x6), (.int x7), (.int x8), (.int x9), (.int x10), (.int x11), (.int x12), (.int x13), (.int x14), (.int x15)] (.int (0 : Int32)) := Q415.other W422 ne_b1_b_388
  have Q426 : Arv Z h422 b2 k2 .int (16 : Int32) [(.int y0), (.int y1), (.int y2), (.int y3), (.int y4), (.int y5), (.int y6), (.int y7), (.int y8), (.int y9), (.int y10), (.int y11), (.int y12), (.int y13), (.int y14), (.int y15)] (.int (0 : Int32)) := Q416.other W422 ne_b2_b_388
  have Q427 : Fld Z h422 a1 "com/example/axiomwright/axiomwright/Arcs" "from" "[I" (.ref b_388) := Q418.other W422 (Or.inl ne_a1_b_388)
  have Q428 : Arv Z h422 b_404 k2_404 .int (32 : Int32) [(.int y0), (.int y1), (.int y2), (.int y3), (.int y4), (.int y5), (.int y6), (.int y7), (.int y8), (.int y9), (.int y10), (.int y11), (.int y12), (.int y13), (.int y14), (.int y15), (.int (0 : Int32)), (.int (0 : Int32)), (.int (0 : Int32)), (.int (0 : Int32)), (.int (0 : Int32)), (.int (0 : Int32)), (.int (0 : Int32)), (.int (0 : Int32)), (.int (0 : Int32)), (.int (0 : Int32)), (.int (0 : Int32)), (.int (0 : Int32)), (.int (0 : Int32)), (.int (0 : Int32)), (.int (0 : Int32)), (.int (0 : Int32))] (.int (0 : Int32)) := Q419.other W422 (Ne.symm ne_b_388_b_404)
  have Q429 : Fld Z h422 a1 "com/example/axiomwright/axiomwright/Arcs" "to" "[I" (.ref b_404) := U412.other W422 (Or.inl ne_a1_b_388)
  have U422 : Arv Z h422 b_388 k2_388 .int (32 : Int32) [(.int x0), (.int x1), (.int x2), (.int x3), (.int x4), (.int x5), (.int x6), (.int x7), (.int x8), (.int x9), (.int x10), (.int x11), (.int x12), (.int x13), (.int x14), (.int x15), (.int p2), (.int (0 : Int32)), (.int (0 : Int32)), (.int (0 : Int32)), (.int (0 : Int32)), (.int (0 : Int32)), (.int (0 : Int32)), (.int (0 : Int32)), (.int (0 : Int32)), (.int (0 : Int32)), (.int (0 : Int32)), (.int (0 : Int32)), (.int (0 : Int32)), (.int (0 : Int32)), (.int (0 : Int32)), (.int (0 : Int32))] (.int (0 : Int32)) := Arv.set Ar422 q422 S422 M422 Ha422 G422 rfl W422 16 rfl (Nat.le_of_ble_eq_true rfl)
  have Z422 : n0 ≤ h422.size := Nat.le_trans Z412 (Keep.of_wr W422).1
  have N422 := Fr.snoc X422 N412 low_b_388
  have K422 := K412.wr W422 (Or.inr sz_b_388)
  refine own_go st422 ?_
  refine own_go (A := T422.setTop (mkF m 56 #[.val (.ref a1), .val (.int p2), .val (.int p3)] [])) (B := T422.setTop (mkF m 57 #[.val (.ref a1), .val (.int p2), .val (.int p3)] [(.ref a1)])) (fun t k => ?_) ?_
  · show Steps p.tables e below (T422.setTop (mkF m 56 #[.val (.ref a1), .val (.int p2), .val (.int p3)] [])) _
    refine XS.aloadN X422.here hx rfl (hb hby d3_56) rfl rfl ?_
    exact k
  obtain ⟨T430, X430, e430, st430⟩ := getF X422 hx hZ hown (host := "") (Or.inl (hw _ (List.mem_of_getElem? (i := 12) rfl))) Via.refl e422 Q429 (g := (mkF m 57 #[.val (.ref a1), .val (.int p2), .val (.int p3)] [(.ref a1)])) rfl rfl (hb hby d3_57)
  refine own_go st430 ?_
  refine own_go (A := T430.setTop (mkF m 60 #[.val (.ref a1), .val (.int p2), .val (.int p3)] [(.ref b_404)])) (B := T430.setTop (mkF m 62 #[.val (.ref a1), .val (.int p2), .val (.int p3)] [(.ref a1), (.ref a1), (.ref b_404)])) (fun t k => ?_) ?_
  · show Steps p.tables e below (T430.setTop (mkF m 60 #[.val (.ref a1), .val (.int p2), .val (.int p3)] [(.ref b_404)])) _
    refine XS.aloadN X430.here hx rfl (hb hby d3_60) rfl rfl ?_
    show Steps p.tables e below (T430.setTop (mkF m 61 #[.val (.ref a1), .val (.int p2), .val (.int p3)] [(.ref a1), (.ref b_404)])) _
    refine XS.dup X430.here hx rfl (hb hby d3_61) rfl rfl ?_
    exact k
  obtain ⟨T431, X431, e431, st431⟩ := getF X430 hx hZ hown (host := "") (Or.inl (hw _ (List.mem_of_getElem? (i := 19) rfl))) Via.refl e430 Q424 (g := (mkF m 62 #[.val (.ref a1), .val (.int p2), .val (.int p3)] [(.ref a1), (.ref a1), (.ref b_404)])) rfl rfl (hb hby d3_62)
  refine own_go st431 ?_
  refine own_go (A := T431.setTop (mkF m 65 #[.val (.ref a1), .val (.int p2), .val (.int p3)] [(.int (16 : Int32)), (.ref a1), (.ref b_404)])) (B := T431.setTop (mkF m 68 #[.val (.ref a1), .val (.int p2), .val (.int p3)] [(.int (17 : Int32)), (.ref a1), (.int (16 : Int32)), (.ref b_404)])) (fun t k => ?_) ?_
  · show Steps p.tables e below (T431.setTop (mkF m 65 #[.val (.ref a1), .val (.int p2), .val (.int p3)] [(.int (16 : Int32)), (.ref a1), (.ref b_404)])) _
    refine XS.dupX1 X431.here hx rfl (hb hby d3_65) rfl rfl rfl ?_
    show Steps p.tables e below (T431.setTop (mkF m 66 #[.val (.ref a1), .val (.int p2), .val (.int p3)] [(.int (16 : Int32)), (.ref a1), (.int (16 : Int32)), (.ref b_404)])) _
    refine XS.iconst X431.here hx rfl (hb hby d3_66) ?_
    show Steps p.tables e below (T431.setTop (mkF m 67 #[.val (.ref a1), .val (.int p2), .val (.int p3)] [(.int (1 : Int32)), (.int (16 : Int32)), (.ref a1), (.int (16 : Int32)), (.ref b_404)])) _
    refine XS.iadd X431.here hx rfl (hb hby d3_67) rfl ?_
    exact k
  obtain ⟨T432, h432, X432, e432, W432, st432⟩ := putF X431 hx hZ hown (host := "") (Or.inl (hw _ (List.mem_of_getElem? (i := 19) rfl))) Via.refl e431 Q424 Q423 (Or.inl (hw _ (List.mem_of_getElem? (i := 20) rfl))) (hw _ (List.mem_of_getElem? (i := 1) rfl)) (ty := .int) (by decide) rfl rfl (g := (mkF m 68 #[.val (.ref a1), .val (.int p2), .val (.int p3)] [(.int (17 : Int32)), (.ref a1), (.int (16 : Int32)), (.ref b_404)])) rfl rfl (hb hby d3_68)
  have Q433 : Exa Z h432 a1 "com/example/axiomwright/axiomwright/Arcs" := Q423.wr W432
  have Q434 : Arv Z h432 b1 k1 .int (16 : Int32) [(.int x0), (.int x1), (.int x2), (.int x3), (.int x4), (.int x5), (.int x6), (.int x7), (.int x8), (.int x9), (.int x10), (.int x11), (.int x12), (.int x13), (.int x14), (.int x15)] (.int (0 : Int32)) := Q425.other W432 ne_b1_a1
  have Q435 : Arv Z h432 b2 k2 .int (16 : Int32) [(.int y0), (.int y1), (.int y2), (.int y3), (.int y4), (.int y5), (.int y6), (.int y7), (.int y8), (.int y9), (.int y10), (.int y11), (.int y12), (.int y13), (.int y14), (.int y15)] (.int (0 : Int32)) := Q426.other W432 ne_b2_a1
  have Q436 : Fld Z h432 a1 "com/example/axiomwright/axiomwright/Arcs" "from" "[I" (.ref b_388) := Q427.other W432 (Or.inr (slot_ne (Or.inl (hw _ (List.mem_of_getElem? (i := 11) rfl))) (Or.inl (hw _ (List.mem_of_getElem? (i := 20) rfl))) (by decide) (t := (.array .int)) (t' := .int) (by decide) (by decide)))
  have Q437 : Arv Z h432 b_404 k2_404 .int (32 : Int32) [(.int y0), (.int y1), (.int y2), (.int y3), (.int y4), (.int y5), (.int y6), (.int y7), (.int y8), (.int y9), (.int y10), (.int y11), (.int y12), (.int y13), (.int y14), (.int y15), (.int (0 : Int32)), (.int (0 : Int32)), (.int (0 : Int32)), (.int (0 : Int32)), (.int (0 : Int32)), (.int (0 : Int32)), (.int (0 : Int32)), (.int (0 : Int32)), (.int (0 : Int32)), (.int (0 : Int32)), (.int (0 : Int32)), (.int (0 : Int32)), (.int (0 : Int32)), (.int (0 : Int32)), (.int (0 : Int32)), (.int (0 : Int32))] (.int (0 : Int32)) := Q428.other W432 (Ne.symm ne_a1_b_404)
  have Q438 : Fld Z h432 a1 "com/example/axiomwright/axiomwright/Arcs" "to" "[I" (.ref b_404) := Q429.other W432 (Or.inr (slot_ne (Or.inl (hw _ (List.mem_of_getElem? (i := 13) rfl))) (Or.inl (hw _ (List.mem_of_getElem? (i := 20) rfl))) (by decide) (t := (.array .int)) (t' := .int) (by decide) (by decide)))
  have Q439 : Arv Z h432 b_388 k2_388 .int (32 : Int32) [(.int x0), (.int x1), (.int x2), (.int x3), (.int x4), (.int x5), (.int x6), (.int x7), (.int x8), (.int x9), (.int x10), (.int x11), (.int x12), (.int x13), (.int x14), (.int x15), (.int p2), (.int (0 : Int32)), (.int (0 : Int32)), (.int (0 : Int32)), (.int (0 : Int32)), (.int (0 : Int32)), (.int (0 : Int32)), (.int (0 : Int32)), (.int (0 : Int32)), (.int (0 : Int32)), (.int (0 : Int32)), (.int (0 : Int32)), (.int (0 : Int32)), (.int (0 : Int32)), (.int (0 : Int32)), (.int (0 : Int32))] (.int (0 : Int32)) := U422.other W432 (Ne.symm ne_a1_b_388)
  have U432 : Fld Z h432 a1 "com/example/axiomwright/axiomwright/Arcs" "size" "I" (.int (17 : Int32)) := Q424.same W432
  have Z432 : n0 ≤ h432.size := Nat.le_trans Z422 (Keep.of_wr W432).1
  have N432 := Fr.snoc X432 N422 g_a1
  have K432 := K422.wr W432 (Or.inl (List.mem_of_getElem? (i := 0) rfl))
  refine own_go st432 ?_
  refine own_go (A := T432.setTop (mkF m 71 #[.val (.ref a1), .val (.int p2), .val (.int p3)] [(.int (16 : Int32)), (.ref b_404)])) (B := T432.setTop (mkF m 72 #[.val (.ref a1), .val (.int p2), .val (.int p3)] [(.int p3), (.int (16 : Int32)), (.ref b_404)])) (fun t k => ?_) ?_
  · show Steps p.tables e below (T432.setTop (mkF m 71 #[.val (.ref a1), .val (.int p2), .val (.int p3)] [(.int (16 : Int32)), (.ref b_404)])) _
    refine XS.iloadN X432.here hx rfl (hb hby d3_71) rfl ?_
    exact k
  obtain ⟨cl440, Ar440, q440, S440, M440, Ha440, G440⟩ := Q437
  have hin440 : ¬ ((16 : Int32) < 0 ∨ cl440.slots.size ≤ ((16 : Int32)).toNatClampNeg) := inb_of S440 ⟨by decide, by decide⟩
  obtain ⟨T440, h440, X440, e440, W440, st440⟩ := stI X432 hx hZ e432 Ar440 (j := (16 : Int32)) hin440 (g := (mkF m 72 #[.val (.ref a1), .val (.int p2), .val (.int p3)] [(.int p3), (.int (16 : Int32)), (.ref b_404)])) rfl rfl (hb hby d3_72)
  have Q441 : Exa Z h440 a1 "com/example/axiomwright/axiomwright/Arcs" := Q433.wr W440
  have Q442 : Arv Z h440 b1 k1 .int (16 : Int32) [(.int x0), (.int x1), (.int x2), (.int x3), (.int x4), (.int x5), (.int x6), (.int x7), (.int x8), (.int x9), (.int x10), (.int x11), (.int x12), (.int x13), (.int x14), (.int x15)] (.int (0 : Int32)) := Q434.other W440 ne_b1_b_404
  have Q443 : Arv Z h440 b2 k2 .int (16 : Int32) [(.int y0), (.int y1), (.int y2), (.int y3), (.int y4), (.int y5), (.int y6), (.int y7), (.int y8), (.int y9), (.int y10), (.int y11), (.int y12), (.int y13), (.int y14), (.int y15)] (.int (0 : Int32)) := Q435.other W440 ne_b2_b_404
  have Q444 : Fld Z h440 a1 "com/example/axiomwright/axiomwright/Arcs" "from" "[I" (.ref b_388) := Q436.other W440 (Or.inl ne_a1_b_404)
  have Q445 : Fld Z h440 a1 "com/example/axiomwright/axiomwright/Arcs" "to" "[I" (.ref b_404) := Q438.other W440 (Or.inl ne_a1_b_404)
  have Q446 : Arv Z h440 b_388 k2_388 .int (32 : Int32) [(.int x0), (.int x1), (.int x2), (.int x3), (.int x4), (.int x5), (.int x6), (.int x7), (.int x8), (.int x9), (.int x10), (.int x11), (.int x12), (.int x13), (.int x14), (.int x15), (.int p2), (.int (0 : Int32)), (.int (0 : Int32)), (.int (0 : Int32)), (.int (0 : Int32)), (.int (0 : Int32)), (.int (0 : Int32)), (.int (0 : Int32)), (.int (0 : Int32)), (.int (0 : Int32)), (.int (0 : Int32)), (.int (0 : Int32)), (.int (0 : Int32)), (.int (0 : Int32)), (.int (0 : Int32)), (.int (0 : Int32))] (.int (0 : Int32)) := Q439.other W440 ne_b_388_b_404
  have Q447 : Fld Z h440 a1 "com/example/axiomwright/axiomwright/Arcs" "size" "I" (.int (17 : Int32)) := U432.other W440 (Or.inl ne_a1_b_404)
  have U440 : Arv Z h440 b_404 k2_404 .int (32 : Int32) [(.int y0), (.int y1), (.int y2), (.int y3), (.int y4), (.int y5), (.int y6), (.int y7), (.int y8), (.int y9), (.int y10), (.int y11), (.int y12), (.int y13), (.int y14), (.int y15), (.int p3), (.int (0 : Int32)), (.int (0 : Int32)), (.int (0 : Int32)), (.int (0 : Int32)), (.int (0 : Int32)), (.int (0 : Int32)), (.int (0 : Int32)), (.int (0 : Int32)), (.int (0 : Int32)), (.int (0 : Int32)), (.int (0 : Int32)), (.int (0 : Int32)), (.int (0 : Int32)), (.int (0 : Int32)), (.int (0 : Int32))] (.int (0 : Int32)) := Arv.set Ar440 q440 S440 M440 Ha440 G440 rfl W440 16 rfl (Nat.le_of_ble_eq_true rfl)
  have Z440 : n0 ≤ h440.size := Nat.le_trans Z432 (Keep.of_wr W440).1
  have N440 := Fr.snoc X440 N432 low_b_404
  have K440 := K432.wr W440 (Or.inr sz_b_404)
  refine own_go st440 ?_
  obtain ⟨fs, hr, hrun, hended, hW, hsame⟩ := X440.leave (v := none) (fun _ => rfl)
  refine ⟨_, _, ?_, hrun, hended, _, _, rfl, ?_, ⟨_, rfl⟩, hW, hsame.mono (by decide) (by decide)⟩
  · show Steps p.tables e below (T440.setTop (mkF m 73 #[.val (.ref a1), .val (.int p2), .val (.int p3)] [])) _
    exact X440.returnOut hx Bd.returns (hb hby d3_73) hr
  · show Qrm3g Z a1 p2 p3 b1 b2 k1 k2 x0 x1 x2 x3 x4 x5 x6 x7 x8 x9 x10 x11 x12 x13 x14 x15 y0 y1 y2 y3 y4 y5 y6 y7 y8 y9 y10 y11 y12 y13 y14 y15 h0 n0 _ T440.heap _
    rw [e440]
    exact ⟨b_388, b_404, k2_388, k2_404, rfl, N440, K440, sz_b_388, sz_b_404, Q447, Q444, Q445, Q446, U440⟩
def Qrm8_0_32 (Z : State) (a1 : Addr) (b1 : Addr) (k1 : ClassId) (x0 : Int32) (x1 : Int32) (x2 : Int32) (x3 : Int32) (x4 : Int32) (x5 : Int32) (x6 : Int32) (x7 : Int32) (x8 : Int32) (x9 : Int32) (x10 : Int32) (x11 : Int32) (x12 : Int32) (x13 : Int32) (x14 : Int32) (x15 : Int32) (x16 : Int32) (x17 : Int32) (x18 : Int32) (x19 : Int32) (x20 : Int32) (x21 : Int32) (x22 : Int32) (x23 : Int32) (x24 : Int32) (x25 : Int32) (x26 : Int32) (x27 : Int32) (x28 : Int32) (x29 : Int32) (x30 : Int32) (x31 : Int32) (h0 : Heap) (n0 : Nat) (v : Option Value) (h : Heap) (L : List Loc) : Prop := v = some (.int x0) ∧ Fr n0 L ∧ h = h0
theorem efrm8_0_32 (m : MethodId) (x0 : Addr) : entryFrame m #[(.ref x0), (.int (0 : Int32))] 2 = mkF m 0 #[.val (.ref x0), .val (.int (0 : Int32))] [] := by first | (simp [entryFrame, mkF, argsToLocals, Value.category]; done) | rfl
set_option maxRecDepth 65536 in
set_option maxHeartbeats 40000000 in
theorem rm8_0_32 (l : Launch) (Z : State) (a0 : Array Value) (hw : ∀ d ∈ tables_1, d.before a0 Z = true) (ws : List Jvm.Cond) (a1 : Addr) (b1 : Addr) (k1 : ClassId) (x0 : Int32) (x1 : Int32) (x2 : Int32) (x3 : Int32) (x4 : Int32) (x5 : Int32) (x6 : Int32) (x7 : Int32) (x8 : Int32) (x9 : Int32) (x10 : Int32) (x11 : Int32) (x12 : Int32) (x13 : Int32) (x14 : Int32) (x15 : Int32) (x16 : Int32) (x17 : Int32) (x18 : Int32) (x19 : Int32) (x20 : Int32) (x21 : Int32) (x22 : Int32) (x23 : Int32) (x24 : Int32) (x25 : Int32) (x26 : Int32) (x27 : Int32) (x28 : Int32) (x29 : Int32) (x30 : Int32) (x31 : Int32) (h0 : Heap) (n0 : Nat) (Z0 : n0 ≤ h0.size) (P0 : Fld Z h0 a1 "com/example/axiomwright/axiomwright/Arcs" "from" "[I" (.ref b1)) (P1 : Arv Z h0 b1 k1 .int (32 : Int32) [(.int x0), (.int x1), (.int x2), (.int x3), (.int x4), (.int x5), (.int x6), (.int x7), (.int x8), (.int x9), (.int x10), (.int x11), (.int x12), (.int x13), (.int x14), (.int x15), (.int x16), (.int x17), (.int x18), (.int x19), (.int x20), (.int x21), (.int x22), (.int x23), (.int x24), (.int x25), (.int x26), (.int x27), (.int x28), (.int x29), (.int x30), (.int x31)] (.int (0 : Int32))) :
    MetFree l (⟨"com/example/axiomwright/axiomwright/Arcs", "tail", "(I)I"⟩ : MethodName) (head1 (Jvm.Cond.code (⟨"com/example/axiomwright/axiomwright/Arcs", "tail", "(I)I"⟩ : MethodName) prog_2_method_6_code 2 (some .int) :: ws) ({ frames := 0, cells := 0, slots := 0, locals := 0 } : Room)) (fun a U => a = #[(.ref a1), (.int (0 : Int32))] ∧ Z.Warmed39 U.vm ∧ U.heap = h0) (fun _ _ _ _ _ => True) (fun _ U o U' => ∃ v L, o = .returned v ∧ Qrm8_0_32 Z a1 b1 k1 x0 x1 x2 x3 x4 x5 x6 x7 x8 x9 x10 x11 x12 x13 x14 x15 x16 x17 x18 x19 x20 x21 x22 x23 x24 x25 x26 x27 x28 x29 x30 x31 h0 n0 v U'.heap L ∧ FrameEnd U o U' L ({ frames := 0, cells := 0, slots := 0, locals := 0 } : Room).cells ({ frames := 0, cells := 0, slots := 0, locals := 0 } : Room).slots) := by
  refine MetFree.of_bodySF (plainFor_of_name pn_0) hisR ?_
  intro p e s m args below meth c s₁ Bd hml0 hP hK
  obtain ⟨rfl, hZ, hh⟩ := hP
  have hx := Bd.exec
  have hby := Bd.bytes
  have hml : c.maxLocals = 2 := hml0
  have hown : s.vm.findClass "com/example/axiomwright/axiomwright/Arcs" = some m.cls := findClass_of_methodNamed Bd.named
  have hnm := (name_of_methodNamed Bd.named Bd.method).1
  have X0 : Stand p l e ({ frames := 0, cells := 0, slots := 0, locals := 0 } : Room) s m #[(.ref a1), (.int (0 : Int32))] below meth c s₁ [] 0 0 := Stand.of_body Bd
  have e0 : s₁.heap = h0 := by rw [← hh, Bd.state]; rfl
  have N0 := Fr.nil n0
  have K0 : Keep h0 h0 [] := Keep.refl h0 _
  refine own_go (B := s₁.setTop (mkF m 0 #[.val (.ref a1), .val (.int (0 : Int32))] [])) (fun t k => castTop (efrm8_0_32 m a1) k) ?_
  refine own_go (A := s₁.setTop (mkF m 0 #[.val (.ref a1), .val (.int (0 : Int32))] [])) (B := s₁.setTop (mkF m 1 #[.val (.ref a1), .val (.int (0 : Int32))] [(.ref a1)])) (fun t k => ?_) ?_
  · show Steps p.tables e below (s₁.setTop (mkF m 0 #[.val (.ref a1), .val (.int (0 : Int32))] [])) _
    refine XS.aloadN X0.here hx rfl (hb hby d8_0) rfl rfl ?_
    exact k
  obtain ⟨T448, X448, e448, st448⟩ := getF X0 hx hZ hown (host := "") (Or.inl (hw _ (List.mem_of_getElem? (i := 10) rfl))) Via.refl e0 P0 (g := (mkF m 1 #[.val (.ref a1), .val (.int (0 : Int32))] [(.ref a1)])) rfl rfl (hb hby d8_1)
  refine own_go st448 ?_
  refine own_go (A := T448.setTop (mkF m 4 #[.val (.ref a1), .val (.int (0 : Int32))] [(.ref b1)])) (B := T448.setTop (mkF m 5 #[.val (.ref a1), .val (.int (0 : Int32))] [(.int (0 : Int32)), (.ref b1)])) (fun t k => ?_) ?_
  · show Steps p.tables e below (T448.setTop (mkF m 4 #[.val (.ref a1), .val (.int (0 : Int32))] [(.ref b1)])) _
    refine XS.iloadN X448.here hx rfl (hb hby d8_4) rfl ?_
    exact k
  obtain ⟨cl449, Ar449, q449, S449, M449, Ha449, G449⟩ := id P1
  have hin449 : ¬ ((0 : Int32) < 0 ∨ cl449.slots.size ≤ ((0 : Int32)).toNatClampNeg) := inb_of S449 ⟨by decide, by decide⟩
  refine own_go (A := T448.setTop (mkF m 5 #[.val (.ref a1), .val (.int (0 : Int32))] [(.int (0 : Int32)), (.ref b1)])) (X448.iaload hx (j := (0 : Int32)) (v := (.int x0)) (by rw [e448]; exact Ar449.1) (State.isArrayOf_alike hZ.alike Ar449.2.1) Ar449.2.2 hin449 (Has.at Ha449 hin449 rfl) (g := (mkF m 5 #[.val (.ref a1), .val (.int (0 : Int32))] [(.int (0 : Int32)), (.ref b1)])) rfl rfl (hb hby d8_5)) ?_
  obtain ⟨fs, hr, hrun, hended, hW, hsame⟩ := X448.leave (v := some (.int x0)) (fun h => by rw [Bd.returns] at h; cases h)
  refine ⟨_, _, ?_, hrun, hended, _, _, rfl, ?_, ⟨_, rfl⟩, hW, hsame.mono (by decide) (by decide)⟩
  · show Steps p.tables e below (T448.setTop (mkF m 6 #[.val (.ref a1), .val (.int (0 : Int32))] [(.int x0)])) _
    exact retOut X448 hx Bd.returns rfl (Or.inl ⟨rfl, Or.inl rfl, _, rfl⟩) (hb hby d8_6) hr
  · show Qrm8_0_32 Z a1 b1 k1 x0 x1 x2 x3 x4 x5 x6 x7 x8 x9 x10 x11 x12 x13 x14 x15 x16 x17 x18 x19 x20 x21 x22 x23 x24 x25 x26 x27 x28 x29 x30 x31 h0 n0 _ T448.heap _
    rw [e448]
    exact ⟨rfl, N0, rfl⟩
def Qrm9_0_32 (Z : State) (a1 : Addr) (b1 : Addr) (k1 : ClassId) (x0 : Int32) (x1 : Int32) (x2 : Int32) (x3 : Int32) (x4 : Int32) (x5 : Int32) (x6 : Int32) (x7 : Int32) (x8 : Int32) (x9 : Int32) (x10 : Int32) (x11 : Int32) (x12 : Int32) (x13 : Int32) (x14 : Int32) (x15 : Int32) (x16 : Int32) (x17 : Int32) (x18 : Int32) (x19 : Int32) (x20 : Int32) (x21 : Int32) (x22 : Int32) (x23 : Int32) (x24 : Int32) (x25 : Int32) (x26 : Int32) (x27 : Int32) (x28 : Int32) (x29 : Int32) (x30 : Int32) (x31 : Int32) (h0 : Heap) (n0 : Nat) (v : Option Value) (h : Heap) (L : List Loc) : Prop := v = some (.int x0) ∧ Fr n0 L ∧ h = h0
theorem efrm9_0_32 (m : MethodId) (x0 : Addr) : entryFrame m #[(.ref x0), (.int (0 : Int32))] 2 = mkF m 0 #[.val (.ref x0), .val (.int (0 : Int32))] [] := by first | (simp [entryFrame, mkF, argsToLocals, Value.category]; done) | rfl
set_option maxRecDepth 65536 in
set_option maxHeartbeats 40000000 in
theorem rm9_0_32 (l : Launch) (Z : State) (a0 : Array Value) (hw : ∀ d ∈ tables_1, d.before a0 Z = true) (ws : List Jvm.Cond) (a1 : Addr) (b1 : Addr) (k1 : ClassId) (x0 : Int32) (x1 : Int32) (x2 : Int32) (x3 : Int32) (x4 : Int32) (x5 : Int32) (x6 : Int32) (x7 : Int32) (x8 : Int32) (x9 : Int32) (x10 : Int32) (x11 : Int32) (x12 : Int32) (x13 : Int32) (x14 : Int32) (x15 : Int32) (x16 : Int32) (x17 : Int32) (x18 : Int32) (x19 : Int32) (x20 : Int32) (x21 : Int32) (x22 : Int32) (x23 : Int32) (x24 : Int32) (x25 : Int32) (x26 : Int32) (x27 : Int32) (x28 : Int32) (x29 : Int32) (x30 : Int32) (x31 : Int32) (h0 : Heap) (n0 : Nat) (Z0 : n0 ≤ h0.size) (P0 : Fld Z h0 a1 "com/example/axiomwright/axiomwright/Arcs" "to" "[I" (.ref b1)) (P1 : Arv Z h0 b1 k1 .int (32 : Int32) [(.int x0), (.int x1), (.int x2), (.int x3), (.int x4), (.int x5), (.int x6), (.int x7), (.int x8), (.int x9), (.int x10), (.int x11), (.int x12), (.int x13), (.int x14), (.int x15), (.int x16), (.int x17), (.int x18), (.int x19), (.int x20), (.int x21), (.int x22), (.int x23), (.int x24), (.int x25), (.int x26), (.int x27), (.int x28), (.int x29), (.int x30), (.int x31)] (.int (0 : Int32))) :
    MetFree l (⟨"com/example/axiomwright/axiomwright/Arcs", "head", "(I)I"⟩ : MethodName) (head1 (Jvm.Cond.code (⟨"com/example/axiomwright/axiomwright/Arcs", "head", "(I)I"⟩ : MethodName) prog_2_method_7_code 2 (some .int) :: ws) ({ frames := 0, cells := 0, slots := 0, locals := 0 } : Room)) (fun a U => a = #[(.ref a1), (.int (0 : Int32))] ∧ Z.Warmed39 U.vm ∧ U.heap = h0) (fun _ _ _ _ _ => True) (fun _ U o U' => ∃ v L, o = .returned v ∧ Qrm9_0_32 Z a1 b1 k1 x0 x1 x2 x3 x4 x5 x6 x7 x8 x9 x10 x11 x12 x13 x14 x15 x16 x17 x18 x19 x20 x21 x22 x23 x24 x25 x26 x27 x28 x29 x30 x31 h0 n0 v U'.heap L ∧ FrameEnd U o U' L ({ frames := 0, cells := 0, slots := 0, locals := 0 } : Room).cells ({ frames := 0, cells := 0, slots := 0, locals := 0 } : Room).slots) := by
  refine MetFree.of_bodySF (plainFor_of_name pn_0) hisR ?_
  intro p e s m args below meth c s₁ Bd hml0 hP hK
  obtain ⟨rfl, hZ, hh⟩ := hP
  have hx := Bd.exec
  have hby := Bd.bytes
  have hml : c.maxLocals = 2 := hml0
  have hown : s.vm.findClass "com/example/axiomwright/axiomwright/Arcs" = some m.cls := findClass_of_methodNamed Bd.named
  have hnm := (name_of_methodNamed Bd.named Bd.method).1
  have X0 : Stand p l e ({ frames := 0, cells := 0, slots := 0, locals := 0 } : Room) s m #[(.ref a1), (.int (0 : Int32))] below meth c s₁ [] 0 0 := Stand.of_body Bd
  have e0 : s₁.heap = h0 := by rw [← hh, Bd.state]; rfl
  have N0 := Fr.nil n0
  have K0 : Keep h0 h0 [] := Keep.refl h0 _
  refine own_go (B := s₁.setTop (mkF m 0 #[.val (.ref a1), .val (.int (0 : Int32))] [])) (fun t k => castTop (efrm9_0_32 m a1) k) ?_
  refine own_go (A := s₁.setTop (mkF m 0 #[.val (.ref a1), .val (.int (0 : Int32))] [])) (B := s₁.setTop (mkF m 1 #[.val (.ref a1), .val (.int (0 : Int32))] [(.ref a1)])) (fun t k => ?_) ?_
  · show Steps p.tables e below (s₁.setTop (mkF m 0 #[.val (.ref a1), .val (.int (0 : Int32))] [])) _
    refine XS.aloadN X0.here hx rfl (hb hby d9_0) rfl rfl ?_
    exact k
  obtain ⟨T450, X450, e450, st450⟩ := getF X0 hx hZ hown (host := "") (Or.inl (hw _ (List.mem_of_getElem? (i := 12) rfl))) Via.refl e0 P0 (g := (mkF m 1 #[.val (.ref a1), .val (.int (0 : Int32))] [(.ref a1)])) rfl rfl (hb hby d9_1)
  refine own_go st450 ?_
  refine own_go (A := T450.setTop (mkF m 4 #[.val (.ref a1), .val (.int (0 : Int32))] [(.ref b1)])) (B := T450.setTop (mkF m 5 #[.val (.ref a1), .val (.int (0 : Int32))] [(.int (0 : Int32)), (.ref b1)])) (fun t k => ?_) ?_
  · show Steps p.tables e below (T450.setTop (mkF m 4 #[.val (.ref a1), .val (.int (0 : Int32))] [(.ref b1)])) _
    refine XS.iloadN X450.here hx rfl (hb hby d9_4) rfl ?_
    exact k
  obtain ⟨cl451, Ar451, q451, S451, M451, Ha451, G451⟩ := id P1
  have hin451 : ¬ ((0 : Int32) < 0 ∨ cl451.slots.size ≤ ((0 : Int32)).toNatClampNeg) := inb_of S451 ⟨by decide, by decide⟩
  refine own_go (A := T450.setTop (mkF m 5 #[.val (.ref a1), .val (.int (0 : Int32))] [(.int (0 : Int32)), (.ref b1)])) (X450.iaload hx (j := (0 : Int32)) (v := (.int x0)) (by rw [e450]; exact Ar451.1) (State.isArrayOf_alike hZ.alike Ar451.2.1) Ar451.2.2 hin451 (Has.at Ha451 hin451 rfl) (g := (mkF m 5 #[.val (.ref a1), .val (.int (0 : Int32))] [(.int (0 : Int32)), (.ref b1)])) rfl rfl (hb hby d9_5)) ?_
  obtain ⟨fs, hr, hrun, hended, hW, hsame⟩ := X450.leave (v := some (.int x0)) (fun h => by rw [Bd.returns] at h; cases h)
  refine ⟨_, _, ?_, hrun, hended, _, _, rfl, ?_, ⟨_, rfl⟩, hW, hsame.mono (by decide) (by decide)⟩
  · show Steps p.tables e below (T450.setTop (mkF m 6 #[.val (.ref a1), .val (.int (0 : Int32))] [(.int x0)])) _
    exact retOut X450 hx Bd.returns rfl (Or.inl ⟨rfl, Or.inl rfl, _, rfl⟩) (hb hby d9_6) hr
  · show Qrm9_0_32 Z a1 b1 k1 x0 x1 x2 x3 x4 x5 x6 x7 x8 x9 x10 x11 x12 x13 x14 x15 x16 x17 x18 x19 x20 x21 x22 x23 x24 x25 x26 x27 x28 x29 x30 x31 h0 n0 _ T450.heap _
    rw [e450]
    exact ⟨rfl, N0, rfl⟩
def Qrm8_14_32 (Z : State) (a1 : Addr) (b1 : Addr) (k1 : ClassId) (x0 : Int32) (x1 : Int32) (x2 : Int32) (x3 : Int32) (x4 : Int32) (x5 : Int32) (x6 : Int32) (x7 : Int32) (x8 : Int32) (x9 : Int32) (x10 : Int32) (x11 : Int32) (x12 : Int32) (x13 : Int32) (x14 : Int32) (x15 : Int32) (x16 : Int32) (x17 : Int32) (x18 : Int32) (x19 : Int32) (x20 : Int32) (x21 : Int32) (x22 : Int32) (x23 : Int32) (x24 : Int32) (x25 : Int32) (x26 : Int32) (x27 : Int32) (x28 : Int32) (x29 : Int32) (x30 : Int32) (x31 : Int32) (h0 : Heap) (n0 : Nat) (v : Option Value) (h : Heap) (L : List Loc) : Prop := v = some (.int x14) ∧ Fr n0 L ∧ h = h0
theorem efrm8_14_32 (m : MethodId) (x0 : Addr) : entryFrame m #[(.ref x0), (.int (14 : Int32))] 2 = mkF m 0 #[.val (.ref x0), .val (.int (14 : Int32))] [] := by first | (simp [entryFrame, mkF, argsToLocals, Value.category]; done) | rfl
set_option maxRecDepth 65536 in
set_option maxHeartbeats 40000000 in
theorem rm8_14_32 (l : Launch) (Z : State) (a0 : Array Value) (hw : ∀ d ∈ tables_1, d.before a0 Z = true) (ws : List Jvm.Cond) (a1 : Addr) (b1 : Addr) (k1 : ClassId) (x0 : Int32) (x1 : Int32) (x2 : Int32) (x3 : Int32) (x4 : Int32) (x5 : Int32) (x6 : Int32) (x7 : Int32) (x8 : Int32) (x9 : Int32) (x10 : Int32) (x11 : Int32) (x12 : Int32) (x13 : Int32) (x14 : Int32) (x15 : Int32) (x16 : Int32) (x17 : Int32) (x18 : Int32) (x19 : Int32) (x20 : Int32) (x21 : Int32) (x22 : Int32) (x23 : Int32) (x24 : Int32) (x25 : Int32) (x26 : Int32) (x27 : Int32) (x28 : Int32) (x29 : Int32) (x30 : Int32) (x31 : Int32) (h0 : Heap) (n0 : Nat) (Z0 : n0 ≤ h0.size) (P0 : Fld Z h0 a1 "com/example/axiomwright/axiomwright/Arcs" "from" "[I" (.ref b1)) (P1 : Arv Z h0 b1 k1 .int (32 : Int32) [(.int x0), (.int x1), (.int x2), (.int x3), (.int x4), (.int x5), (.int x6), (.int x7), (.int x8), (.int x9), (.int x10), (.int x11), (.int x12), (.int x13), (.int x14), (.int x15), (.int x16), (.int x17), (.int x18), (.int x19), (.int x20), (.int x21), (.int x22), (.int x23), (.int x24), (.int x25), (.int x26), (.int x27), (.int x28), (.int x29), (.int x30), (.int x31)] (.int (0 : Int32))) :
    MetFree l (⟨"com/example/axiomwright/axiomwright/Arcs", "tail", "(I)I"⟩ : MethodName) (head1 (Jvm.Cond.code (⟨"com/example/axiomwright/axiomwright/Arcs", "tail", "(I)I"⟩ : MethodName) prog_2_method_6_code 2 (some .int) :: ws) ({ frames := 0, cells := 0, slots := 0, locals := 0 } : Room)) (fun a U => a = #[(.ref a1), (.int (14 : Int32))] ∧ Z.Warmed39 U.vm ∧ U.heap = h0) (fun _ _ _ _ _ => True) (fun _ U o U' => ∃ v L, o = .returned v ∧ Qrm8_14_32 Z a1 b1 k1 x0 x1 x2 x3 x4 x5 x6 x7 x8 x9 x10 x11 x12 x13 x14 x15 x16 x17 x18 x19 x20 x21 x22 x23 x24 x25 x26 x27 x28 x29 x30 x31 h0 n0 v U'.heap L ∧ FrameEnd U o U' L ({ frames := 0, cells := 0, slots := 0, locals := 0 } : Room).cells ({ frames := 0, cells := 0, slots := 0, locals := 0 } : Room).slots) := by
  refine MetFree.of_bodySF (plainFor_of_name pn_0) hisR ?_
  intro p e s m args below meth c s₁ Bd hml0 hP hK
  obtain ⟨rfl, hZ, hh⟩ := hP
  have hx := Bd.exec
  have hby := Bd.bytes
  have hml : c.maxLocals = 2 := hml0
  have hown : s.vm.findClass "com/example/axiomwright/axiomwright/Arcs" = some m.cls := findClass_of_methodNamed Bd.named
  have hnm := (name_of_methodNamed Bd.named Bd.method).1
  have X0 : Stand p l e ({ frames := 0, cells := 0, slots := 0, locals := 0 } : Room) s m #[(.ref a1), (.int (14 : Int32))] below meth c s₁ [] 0 0 := Stand.of_body Bd
  have e0 : s₁.heap = h0 := by rw [← hh, Bd.state]; rfl
  have N0 := Fr.nil n0
  have K0 : Keep h0 h0 [] := Keep.refl h0 _
  refine own_go (B := s₁.setTop (mkF m 0 #[.val (.ref a1), .val (.int (14 : Int32))] [])) (fun t k => castTop (efrm8_14_32 m a1) k) ?_
  refine own_go (A := s₁.setTop (mkF m 0 #[.val (.ref a1), .val (.int (14 : Int32))] [])) (B := s₁.setTop (mkF m 1 #[.val (.ref a1), .val (.int (14 : Int32))] [(.ref a1)])) (fun t k => ?_) ?_
  · show Steps p.tables e below (s₁.setTop (mkF m 0 #[.val (.ref a1), .val (.int (14 : Int32))] [])) _
    refine XS.aloadN X0.here hx rfl (hb hby d8_0) rfl rfl ?_
    exact k
  obtain ⟨T452, X452, e452, st452⟩ := getF X0 hx hZ hown (host := "") (Or.inl (hw _ (List.mem_of_getElem? (i := 10) rfl))) Via.refl e0 P0 (g := (mkF m 1 #[.val (.ref a1), .val (.int (14 : Int32))] [(.ref a1)])) rfl rfl (hb hby d8_1)
  refine own_go st452 ?_
  refine own_go (A := T452.setTop (mkF m 4 #[.val (.ref a1), .val (.int (14 : Int32))] [(.ref b1)])) (B := T452.setTop (mkF m 5 #[.val (.ref a1), .val (.int (14 : Int32))] [(.int (14 : Int32)), (.ref b1)])) (fun t k => ?_) ?_
  · show Steps p.tables e below (T452.setTop (mkF m 4 #[.val (.ref a1), .val (.int (14 : Int32))] [(.ref b1)])) _
    refine XS.iloadN X452.here hx rfl (hb hby d8_4) rfl ?_
    exact k
  obtain ⟨cl453, Ar453, q453, S453, M453, Ha453, G453⟩ := id P1
  have hin453 : ¬ ((14 : Int32) < 0 ∨ cl453.slots.size ≤ ((14 : Int32)).toNatClampNeg) := inb_of S453 ⟨by decide, by decide⟩
  refine own_go (A := T452.setTop (mkF m 5 #[.val (.ref a1), .val (.int (14 : Int32))] [(.int (14 : Int32)), (.ref b1)])) (X452.iaload hx (j := (14 : Int32)) (v := (.int x14)) (by rw [e452]; exact Ar453.1) (State.isArrayOf_alike hZ.alike Ar453.2.1) Ar453.2.2 hin453 (Has.at Ha453 hin453 rfl) (g := (mkF m 5 #[.val (.ref a1), .val (.int (14 : Int32))] [(.int (14 : Int32)), (.ref b1)])) rfl rfl (hb hby d8_5)) ?_
  obtain ⟨fs, hr, hrun, hended, hW, hsame⟩ := X452.leave (v := some (.int x14)) (fun h => by rw [Bd.returns] at h; cases h)
  refine ⟨_, _, ?_, hrun, hended, _, _, rfl, ?_, ⟨_, rfl⟩, hW, hsame.mono (by decide) (by decide)⟩
  · show Steps p.tables e below (T452.setTop (mkF m 6 #[.val (.ref a1), .val (.int (14 : Int32))] [(.int x14)])) _
    exact retOut X452 hx Bd.returns rfl (Or.inl ⟨rfl, Or.inl rfl, _, rfl⟩) (hb hby d8_6) hr
  · show Qrm8_14_32 Z a1 b1 k1 x0 x1 x2 x3 x4 x5 x6 x7 x8 x9 x10 x11 x12 x13 x14 x15 x16 x17 x18 x19 x20 x21 x22 x23 x24 x25 x26 x27 x28 x29 x30 x31 h0 n0 _ T452.heap _
    rw [e452]
    exact ⟨rfl, N0, rfl⟩
def Qrm9_14_32 (Z : State) (a1 : Addr) (b1 : Addr) (k1 : ClassId) (x0 : Int32) (x1 : Int32) (x2 : Int32) (x3 : Int32) (x4 : Int32) (x5 : Int32) (x6 : Int32) (x7 : Int32) (x8 : Int32) (x9 : Int32) (x10 : Int32) (x11 : Int32) (x12 : Int32) (x13 : Int32) (x14 : Int32) (x15 : Int32) (x16 : Int32) (x17 : Int32) (x18 : Int32) (x19 : Int32) (x20 : Int32) (x21 : Int32) (x22 : Int32) (x23 : Int32) (x24 : Int32) (x25 : Int32) (x26 : Int32) (x27 : Int32) (x28 : Int32) (x29 : Int32) (x30 : Int32) (x31 : Int32) (h0 : Heap) (n0 : Nat) (v : Option Value) (h : Heap) (L : List Loc) : Prop := v = some (.int x14) ∧ Fr n0 L ∧ h = h0
theorem efrm9_14_32 (m : MethodId) (x0 : Addr) : entryFrame m #[(.ref x0), (.int (14 : Int32))] 2 = mkF m 0 #[.val (.ref x0), .val (.int (14 : Int32))] [] := by first | (simp [entryFrame, mkF, argsToLocals, Value.category]; done) | rfl
set_option maxRecDepth 65536 in
set_option maxHeartbeats 40000000 in
theorem rm9_14_32 (l : Launch) (Z : State) (a0 : Array Value) (hw : ∀ d ∈ tables_1, d.before a0 Z = true) (ws : List Jvm.Cond) (a1 : Addr) (b1 : Addr) (k1 : ClassId) (x0 : Int32) (x1 : Int32) (x2 : Int32) (x3 : Int32) (x4 : Int32) (x5 : Int32) (x6 : Int32) (x7 : Int32) (x8 : Int32) (x9 : Int32) (x10 : Int32) (x11 : Int32) (x12 : Int32) (x13 : Int32) (x14 : Int32) (x15 : Int32) (x16 : Int32) (x17 : Int32) (x18 : Int32) (x19 : Int32) (x20 : Int32) (x21 : Int32) (x22 : Int32) (x23 : Int32) (x24 : Int32) (x25 : Int32) (x26 : Int32) (x27 : Int32) (x28 : Int32) (x29 : Int32) (x30 : Int32) (x31 : Int32) (h0 : Heap) (n0 : Nat) (Z0 : n0 ≤ h0.size) (P0 : Fld Z h0 a1 "com/example/axiomwright/axiomwright/Arcs" "to" "[I" (.ref b1)) (P1 : Arv Z h0 b1 k1 .int (32 : Int32) [(.int x0), (.int x1), (.int x2), (.int x3), (.int x4), (.int x5), (.int x6), (.int x7), (.int x8), (.int x9), (.int x10), (.int x11), (.int x12), (.int x13), (.int x14), (.int x15), (.int x16), (.int x17), (.int x18), (.int x19), (.int x20), (.int x21), (.int x22), (.int x23), (.int x24), (.int x25), (.int x26), (.int x27), (.int x28), (.int x29), (.int x30), (.int x31)] (.int (0 : Int32))) :
    MetFree l (⟨"com/example/axiomwright/axiomwright/Arcs", "head", "(I)I"⟩ : MethodName) (head1 (Jvm.Cond.code (⟨"com/example/axiomwright/axiomwright/Arcs", "head", "(I)I"⟩ : MethodName) prog_2_method_7_code 2 (some .int) :: ws) ({ frames := 0, cells := 0, slots := 0, locals := 0 } : Room)) (fun a U => a = #[(.ref a1), (.int (14 : Int32))] ∧ Z.Warmed39 U.vm ∧ U.heap = h0) (fun _ _ _ _ _ => True) (fun _ U o U' => ∃ v L, o = .returned v ∧ Qrm9_14_32 Z a1 b1 k1 x0 x1 x2 x3 x4 x5 x6 x7 x8 x9 x10 x11 x12 x13 x14 x15 x16 x17 x18 x19 x20 x21 x22 x23 x24 x25 x26 x27 x28 x29 x30 x31 h0 n0 v U'.heap L ∧ FrameEnd U o U' L ({ frames := 0, cells := 0, slots := 0, locals := 0 } : Room).cells ({ frames := 0, cells := 0, slots := 0, locals := 0 } : Room).slots) := by
  refine MetFree.of_bodySF (plainFor_of_name pn_0) hisR ?_
  intro p e s m args below meth c s₁ Bd hml0 hP hK
  obtain ⟨rfl, hZ, hh⟩ := hP
  have hx := Bd.exec
  have hby := Bd.bytes
  have hml : c.maxLocals = 2 := hml0
  have hown : s.vm.findClass "com/example/axiomwright/axiomwright/Arcs" = some m.cls := findClass_of_methodNamed Bd.named
  have hnm := (name_of_methodNamed Bd.named Bd.method).1
  have X0 : Stand p l e ({ frames := 0, cells := 0, slots := 0, locals := 0 } : Room) s m #[(.ref a1), (.int (14 : Int32))] below meth c s₁ [] 0 0 := Stand.of_body Bd
  have e0 : s₁.heap = h0 := by rw [← hh, Bd.state]; rfl
  have N0 := Fr.nil n0
  have K0 : Keep h0 h0 [] := Keep.refl h0 _
  refine own_go (B := s₁.setTop (mkF m 0 #[.val (.ref a1), .val (.int (14 : Int32))] [])) (fun t k => castTop (efrm9_14_32 m a1) k) ?_
  refine own_go (A := s₁.setTop (mkF m 0 #[.val (.ref a1), .val (.int (14 : Int32))] [])) (B := s₁.setTop (mkF m 1 #[.val (.ref a1), .val (.int (14 : Int32))] [(.ref a1)])) (fun t k => ?_) ?_
  · show Steps p.tables e below (s₁.setTop (mkF m 0 #[.val (.ref a1), .val (.int (14 : Int32))] [])) _
    refine XS.aloadN X0.here hx rfl (hb hby d9_0) rfl rfl ?_
    exact k
  obtain ⟨T454, X454, e454, st454⟩ := getF X0 hx hZ hown (host := "") (Or.inl (hw _ (List.mem_of_getElem? (i := 12) rfl))) Via.refl e0 P0 (g := (mkF m 1 #[.val (.ref a1), .val (.int (14 : Int32))] [(.ref a1)])) rfl rfl (hb hby d9_1)
  refine own_go st454 ?_
  refine own_go (A := T454.setTop (mkF m 4 #[.val (.ref a1), .val (.int (14 : Int32))] [(.ref b1)])) (B := T454.setTop (mkF m 5 #[.val (.ref a1), .val (.int (14 : Int32))] [(.int (14 : Int32)), (.ref b1)])) (fun t k => ?_) ?_
  · show Steps p.tables e below (T454.setTop (mkF m 4 #[.val (.ref a1), .val (.int (14 : Int32))] [(.ref b1)])) _
    refine XS.iloadN X454.here hx rfl (hb hby d9_4) rfl ?_
    exact k
  obtain ⟨cl455, Ar455, q455, S455, M455, Ha455, G455⟩ := id P1
  have hin455 : ¬ ((14 : Int32) < 0 ∨ cl455.slots.size ≤ ((14 : Int32)).toNatClampNeg) := inb_of S455 ⟨by decide, by decide⟩
  refine own_go (A := T454.setTop (mkF m 5 #[.val (.ref a1), .val (.int (14 : Int32))] [(.int (14 : Int32)), (.ref b1)])) (X454.iaload hx (j := (14 : Int32)) (v := (.int x14)) (by rw [e454]; exact Ar455.1) (State.isArrayOf_alike hZ.alike Ar455.2.1) Ar455.2.2 hin455 (Has.at Ha455 hin455 rfl) (g := (mkF m 5 #[.val (.ref a1), .val (.int (14 : Int32))] [(.int (14 : Int32)), (.ref b1)])) rfl rfl (hb hby d9_5)) ?_
  obtain ⟨fs, hr, hrun, hended, hW, hsame⟩ := X454.leave (v := some (.int x14)) (fun h => by rw [Bd.returns] at h; cases h)
  refine ⟨_, _, ?_, hrun, hended, _, _, rfl, ?_, ⟨_, rfl⟩, hW, hsame.mono (by decide) (by decide)⟩
  · show Steps p.tables e below (T454.setTop (mkF m 6 #[.val (.ref a1), .val (.int (14 : Int32))] [(.int x14)])) _
    exact retOut X454 hx Bd.returns rfl (Or.inl ⟨rfl, Or.inl rfl, _, rfl⟩) (hb hby d9_6) hr
  · show Qrm9_14_32 Z a1 b1 k1 x0 x1 x2 x3 x4 x5 x6 x7 x8 x9 x10 x11 x12 x13 x14 x15 x16 x17 x18 x19 x20 x21 x22 x23 x24 x25 x26 x27 x28 x29 x30 x31 h0 n0 _ T454.heap _
    rw [e454]
    exact ⟨rfl, N0, rfl⟩
def Qrm8_15_32 (Z : State) (a1 : Addr) (b1 : Addr) (k1 : ClassId) (x0 : Int32) (x1 : Int32) (x2 : Int32) (x3 : Int32) (x4 : Int32) (x5 : Int32) (x6 : Int32) (x7 : Int32) (x8 : Int32) (x9 : Int32) (x10 : Int32) (x11 : Int32) (x12 : Int32) (x13 : Int32) (x14 : Int32) (x15 : Int32) (x16 : Int32) (x17 : Int32) (x18 : Int32) (x19 : Int32) (x20 : Int32) (x21 : Int32) (x22 : Int32) (x23 : Int32) (x24 : Int32) (x25 : Int32) (x26 : Int32) (x27 : Int32) (x28 : Int32) (x29 : Int32) (x30 : Int32) (x31 : Int32) (h0 : Heap) (n0 : Nat) (v : Option Value) (h : Heap) (L : List Loc) : Prop := v = some (.int x15) ∧ Fr n0 L ∧ h = h0
theorem efrm8_15_32 (m : MethodId) (x0 : Addr) : entryFrame m #[(.ref x0), (.int (15 : Int32))] 2 = mkF m 0 #[.val (.ref x0), .val (.int (15 : Int32))] [] := by first | (simp [entryFrame, mkF, argsToLocals, Value.category]; done) | rfl
set_option maxRecDepth 65536 in
set_option maxHeartbeats 40000000 in
theorem rm8_15_32 (l : Launch) (Z : State) (a0 : Array Value) (hw : ∀ d ∈ tables_1, d.before a0 Z = true) (ws : List Jvm.Cond) (a1 : Addr) (b1 : Addr) (k1 : ClassId) (x0 : Int32) (x1 : Int32) (x2 : Int32) (x3 : Int32) (x4 : Int32) (x5 : Int32) (x6 : Int32) (x7 : Int32) (x8 : Int32) (x9 : Int32) (x10 : Int32) (x11 : Int32) (x12 : Int32) (x13 : Int32) (x14 : Int32) (x15 : Int32) (x16 : Int32) (x17 : Int32) (x18 : Int32) (x19 : Int32) (x20 : Int32) (x21 : Int32) (x22 : Int32) (x23 : Int32) (x24 : Int32) (x25 : Int32) (x26 : Int32) (x27 : Int32) (x28 : Int32) (x29 : Int32) (x30 : Int32) (x31 : Int32) (h0 : Heap) (n0 : Nat) (Z0 : n0 ≤ h0.size) (P0 : Fld Z h0 a1 "com/example/axiomwright/axiomwright/Arcs" "from" "[I" (.ref b1)) (P1 : Arv Z h0 b1 k1 .int (32 : Int32) [(.int x0), (.int x1), (.int x2), (.int x3), (.int x4), (.int x5), (.int x6), (.int x7), (.int x8), (.int x9), (.int x10), (.int x11), (.int x12), (.int x13), (.int x14), (.int x15), (.int x16), (.int x17), (.int x18), (.int x19), (.int x20), (.int x21), (.int x22), (.int x23), (.int x24), (.int x25), (.int x26), (.int x27), (.int x28), (.int x29), (.int x30), (.int x31)] (.int (0 : Int32))) :
    MetFree l (⟨"com/example/axiomwright/axiomwright/Arcs", "tail", "(I)I"⟩ : MethodName) (head1 (Jvm.Cond.code (⟨"com/example/axiomwright/axiomwright/Arcs", "tail", "(I)I"⟩ : MethodName) prog_2_method_6_code 2 (some .int) :: ws) ({ frames := 0, cells := 0, slots := 0, locals := 0 } : Room)) (fun a U => a = #[(.ref a1), (.int (15 : Int32))] ∧ Z.Warmed39 U.vm ∧ U.heap = h0) (fun _ _ _ _ _ => True) (fun _ U o U' => ∃ v L, o = .returned v ∧ Qrm8_15_32 Z a1 b1 k1 x0 x1 x2 x3 x4 x5 x6 x7 x8 x9 x10 x11 x12 x13 x14 x15 x16 x17 x18 x19 x20 x21 x22 x23 x24 x25 x26 x27 x28 x29 x30 x31 h0 n0 v U'.heap L ∧ FrameEnd U o U' L ({ frames := 0, cells := 0, slots := 0, locals := 0 } : Room).cells ({ frames := 0, cells := 0, slots := 0, locals := 0 } : Room).slots) := by
  refine MetFree.of_bodySF (plainFor_of_name pn_0) hisR ?_
  intro p e s m args below meth c s₁ Bd hml0 hP hK
  obtain ⟨rfl, hZ, hh⟩ := hP
  have hx := Bd.exec
  have hby := Bd.bytes
  have hml : c.maxLocals = 2 := hml0
  have hown : s.vm.findClass "com/example/axiomwright/axiomwright/Arcs" = some m.cls := findClass_of_methodNamed Bd.named
  have hnm := (name_of_methodNamed Bd.named Bd.method).1
  have X0 : Stand p l e ({ frames := 0, cells := 0, slots := 0, locals := 0 } : Room) s m #[(.ref a1), (.int (15 : Int32))] below meth c s₁ [] 0 0 := Stand.of_body Bd
  have e0 : s₁.heap = h0 := by rw [← hh, Bd.state]; rfl
  have N0 := Fr.nil n0
  have K0 : Keep h0 h0 [] := Keep.refl h0 _
  refine own_go (B := s₁.setTop (mkF m 0 #[.val (.ref a1), .val (.int (15 : Int32))] [])) (fun t k => castTop (efrm8_15_32 m a1) k) ?_
  refine own_go (A := s₁.setTop (mkF m 0 #[.val (.ref a1), .val (.int (15 : Int32))] [])) (B := s₁.setTop (mkF m 1 #[.val (.ref a1), .val (.int (15 : Int32))] [(.ref a1)])) (fun t k => ?_) ?_
  · show Steps p.tables e below (s₁.setTop (mkF m 0 #[.val (.ref a1), .val (.int (15 : Int32))] [])) _
    refine XS.aloadN X0.here hx rfl (hb hby d8_0) rfl rfl ?_
    exact k
  obtain ⟨T456, X456, e456, st456⟩ := getF X0 hx hZ hown (host := "") (Or.inl (hw _ (List.mem_of_getElem? (i := 10) rfl))) Via.refl e0 P0 (g := (mkF m 1 #[.val (.ref a1), .val (.int (15 : Int32))] [(.ref a1)])) rfl rfl (hb hby d8_1)
  refine own_go st456 ?_
  refine own_go (A := T456.setTop (mkF m 4 #[.val (.ref a1), .val (.int (15 : Int32))] [(.ref b1)])) (B := T456.setTop (mkF m 5 #[.val (.ref a1), .val (.int (15 : Int32))] [(.int (15 : Int32)), (.ref b1)])) (fun t k => ?_) ?_
  · show Steps p.tables e below (T456.setTop (mkF m 4 #[.val (.ref a1), .val (.int (15 : Int32))] [(.ref b1)])) _
    refine XS.iloadN X456.here hx rfl (hb hby d8_4) rfl ?_
    exact k
  obtain ⟨cl457, Ar457, q457, S457, M457, Ha457, G457⟩ := id P1
  have hin457 : ¬ ((15 : Int32) < 0 ∨ cl457.slots.size ≤ ((15 : Int32)).toNatClampNeg) := inb_of S457 ⟨by decide, by decide⟩
  refine own_go (A := T456.setTop (mkF m 5 #[.val (.ref a1), .val (.int (15 : Int32))] [(.int (15 : Int32)), (.ref b1)])) (X456.iaload hx (j := (15 : Int32)) (v := (.int x15)) (by rw [e456]; exact Ar457.1) (State.isArrayOf_alike hZ.alike Ar457.2.1) Ar457.2.2 hin457 (Has.at Ha457 hin457 rfl) (g := (mkF m 5 #[.val (.ref a1), .val (.int (15 : Int32))] [(.int (15 : Int32)), (.ref b1)])) rfl rfl (hb hby d8_5)) ?_
  obtain ⟨fs, hr, hrun, hended, hW, hsame⟩ := X456.leave (v := some (.int x15)) (fun h => by rw [Bd.returns] at h; cases h)
  refine ⟨_, _, ?_, hrun, hended, _, _, rfl, ?_, ⟨_, rfl⟩, hW, hsame.mono (by decide) (by decide)⟩
  · show Steps p.tables e below (T456.setTop (mkF m 6 #[.val (.ref a1), .val (.int (15 : Int32))] [(.int x15)])) _
    exact retOut X456 hx Bd.returns rfl (Or.inl ⟨rfl, Or.inl rfl, _, rfl⟩) (hb hby d8_6) hr
  · show Qrm8_15_32 Z a1 b1 k1 x0 x1 x2 x3 x4 x5 x6 x7 x8 x9 x10 x11 x12 x13 x14 x15 x16 x17 x18 x19 x20 x21 x22 x23 x24 x25 x26 x27 x28 x29 x30 x31 h0 n0 _ T456.heap _
    rw [e456]
    exact ⟨rfl, N0, rfl⟩
def Qrm9_15_32 (Z : State) (a1 : Addr) (b1 : Addr) (k1 : ClassId) (x0 : Int32) (x1 : Int32) (x2 : Int32) (x3 : Int32) (x4 : Int32) (x5 : Int32) (x6 : Int32) (x7 : Int32) (x8 : Int32) (x9 : Int32) (x10 : Int32) (x11 : Int32) (x12 : Int32) (x13 : Int32) (x14 : Int32) (x15 : Int32) (x16 : Int32) (x17 : Int32) (x18 : Int32) (x19 : Int32) (x20 : Int32) (x21 : Int32) (x22 : Int32) (x23 : Int32) (x24 : Int32) (x25 : Int32) (x26 : Int32) (x27 : Int32) (x28 : Int32) (x29 : Int32) (x30 : Int32) (x31 : Int32) (h0 : Heap) (n0 : Nat) (v : Option Value) (h : Heap) (L : List Loc) : Prop := v = some (.int x15) ∧ Fr n0 L ∧ h = h0
theorem efrm9_15_32 (m : MethodId) (x0 : Addr) : entryFrame m #[(.ref x0), (.int (15 : Int32))] 2 = mkF m 0 #[.val (.ref x0), .val (.int (15 : Int32))] [] := by first | (simp [entryFrame, mkF, argsToLocals, Value.category]; done) | rfl
set_option maxRecDepth 65536 in
set_option maxHeartbeats 40000000 in
theorem rm9_15_32 (l : Launch) (Z : State) (a0 : Array Value) (hw : ∀ d ∈ tables_1, d.before a0 Z = true) (ws : List Jvm.Cond) (a1 : Addr) (b1 : Addr) (k1 : ClassId) (x0 : Int32) (x1 : Int32) (x2 : Int32) (x3 : Int32) (x4 : Int32) (x5 : Int32) (x6 : Int32) (x7 : Int32) (x8 : Int32) (x9 : Int32) (x10 : Int32) (x11 : Int32) (x12 : Int32) (x13 : Int32) (x14 : Int32) (x15 : Int32) (x16 : Int32) (x17 : Int32) (x18 : Int32) (x19 : Int32) (x20 : Int32) (x21 : Int32) (x22 : Int32) (x23 : Int32) (x24 : Int32) (x25 : Int32) (x26 : Int32) (x27 : Int32) (x28 : Int32) (x29 : Int32) (x30 : Int32) (x31 : Int32) (h0 : Heap) (n0 : Nat) (Z0 : n0 ≤ h0.size) (P0 : Fld Z h0 a1 "com/example/axiomwright/axiomwright/Arcs" "to" "[I" (.ref b1)) (P1 : Arv Z h0 b1 k1 .int (32 : Int32) [(.int x0), (.int x1), (.int x2), (.int x3), (.int x4), (.int x5), (.int x6), (.int x7), (.int x8), (.int x9), (.int x10), (.int x11), (.int x12), (.int x13), (.int x14), (.int x15), (.int x16), (.int x17), (.int x18), (.int x19), (.int x20), (.int x21), (.int x22), (.int x23), (.int x24), (.int x25), (.int x26), (.int x27), (.int x28), (.int x29), (.int x30), (.int x31)] (.int (0 : Int32))) :
    MetFree l (⟨"com/example/axiomwright/axiomwright/Arcs", "head", "(I)I"⟩ : MethodName) (head1 (Jvm.Cond.code (⟨"com/example/axiomwright/axiomwright/Arcs", "head", "(I)I"⟩ : MethodName) prog_2_method_7_code 2 (some .int) :: ws) ({ frames := 0, cells := 0, slots := 0, locals := 0 } : Room)) (fun a U => a = #[(.ref a1), (.int (15 : Int32))] ∧ Z.Warmed39 U.vm ∧ U.heap = h0) (fun _ _ _ _ _ => True) (fun _ U o U' => ∃ v L, o = .returned v ∧ Qrm9_15_32 Z a1 b1 k1 x0 x1 x2 x3 x4 x5 x6 x7 x8 x9 x10 x11 x12 x13 x14 x15 x16 x17 x18 x19 x20 x21 x22 x23 x24 x25 x26 x27 x28 x29 x30 x31 h0 n0 v U'.heap L ∧ FrameEnd U o U' L ({ frames := 0, cells := 0, slots := 0, locals := 0 } : Room).cells ({ frames := 0, cells := 0, slots := 0, locals := 0 } : Room).slots) := by
  refine MetFree.of_bodySF (plainFor_of_name pn_0) hisR ?_
  intro p e s m args below meth c s₁ Bd hml0 hP hK
  obtain ⟨rfl, hZ, hh⟩ := hP
  have hx := Bd.exec
  have hby := Bd.bytes
  have hml : c.maxLocals = 2 := hml0
  have hown : s.vm.findClass "com/example/axiomwright/axiomwright/Arcs" = some m.cls := findClass_of_methodNamed Bd.named
  have hnm := (name_of_methodNamed Bd.named Bd.method).1
  have X0 : Stand p l e ({ frames := 0, cells := 0, slots := 0, locals := 0 } : Room) s m #[(.ref a1), (.int (15 : Int32))] below meth c s₁ [] 0 0 := Stand.of_body Bd
  have e0 : s₁.heap = h0 := by rw [← hh, Bd.state]; rfl
  have N0 := Fr.nil n0
  have K0 : Keep h0 h0 [] := Keep.refl h0 _
  refine own_go (B := s₁.setTop (mkF m 0 #[.val (.ref a1), .val (.int (15 : Int32))] [])) (fun t k => castTop (efrm9_15_32 m a1) k) ?_
  refine own_go (A := s₁.setTop (mkF m 0 #[.val (.ref a1), .val (.int (15 : Int32))] [])) (B := s₁.setTop (mkF m 1 #[.val (.ref a1), .val (.int (15 : Int32))] [(.ref a1)])) (fun t k => ?_) ?_
  · show Steps p.tables e below (s₁.setTop (mkF m 0 #[.val (.ref a1), .val (.int (15 : Int32))] [])) _
    refine XS.aloadN X0.here hx rfl (hb hby d9_0) rfl rfl ?_
    exact k
  obtain ⟨T458, X458, e458, st458⟩ := getF X0 hx hZ hown (host := "") (Or.inl (hw _ (List.mem_of_getElem? (i := 12) rfl))) Via.refl e0 P0 (g := (mkF m 1 #[.val (.ref a1), .val (.int (15 : Int32))] [(.ref a1)])) rfl rfl (hb hby d9_1)
  refine own_go st458 ?_
  refine own_go (A := T458.setTop (mkF m 4 #[.val (.ref a1), .val (.int (15 : Int32))] [(.ref b1)])) (B := T458.setTop (mkF m 5 #[.val (.ref a1), .val (.int (15 : Int32))] [(.int (15 : Int32)), (.ref b1)])) (fun t k => ?_) ?_
  · show Steps p.tables e below (T458.setTop (mkF m 4 #[.val (.ref a1), .val (.int (15 : Int32))] [(.ref b1)])) _
    refine XS.iloadN X458.here hx rfl (hb hby d9_4) rfl ?_
    exact k
  obtain ⟨cl459, Ar459, q459, S459, M459, Ha459, G459⟩ := id P1
  have hin459 : ¬ ((15 : Int32) < 0 ∨ cl459.slots.size ≤ ((15 : Int32)).toNatClampNeg) := inb_of S459 ⟨by decide, by decide⟩
  refine own_go (A := T458.setTop (mkF m 5 #[.val (.ref a1), .val (.int (15 : Int32))] [(.int (15 : Int32)), (.ref b1)])) (X458.iaload hx (j := (15 : Int32)) (v := (.int x15)) (by rw [e458]; exact Ar459.1) (State.isArrayOf_alike hZ.alike Ar459.2.1) Ar459.2.2 hin459 (Has.at Ha459 hin459 rfl) (g := (mkF m 5 #[.val (.ref a1), .val (.int (15 : Int32))] [(.int (15 : Int32)), (.ref b1)])) rfl rfl (hb hby d9_5)) ?_
  obtain ⟨fs, hr, hrun, hended, hW, hsame⟩ := X458.leave (v := some (.int x15)) (fun h => by rw [Bd.returns] at h; cases h)
  refine ⟨_, _, ?_, hrun, hended, _, _, rfl, ?_, ⟨_, rfl⟩, hW, hsame.mono (by decide) (by decide)⟩
  · show Steps p.tables e below (T458.setTop (mkF m 6 #[.val (.ref a1), .val (.int (15 : Int32))] [(.int x15)])) _
    exact retOut X458 hx Bd.returns rfl (Or.inl ⟨rfl, Or.inl rfl, _, rfl⟩) (hb hby d9_6) hr
  · show Qrm9_15_32 Z a1 b1 k1 x0 x1 x2 x3 x4 x5 x6 x7 x8 x9 x10 x11 x12 x13 x14 x15 x16 x17 x18 x19 x20 x21 x22 x23 x24 x25 x26 x27 x28 x29 x30 x31 h0 n0 _ T458.heap _
    rw [e458]
    exact ⟨rfl, N0, rfl⟩
def Qrm8_16_32 (Z : State) (a1 : Addr) (b1 : Addr) (k1 : ClassId) (x0 : Int32) (x1 : Int32) (x2 : Int32) (x3 : Int32) (x4 : Int32) (x5 : Int32) (x6 : Int32) (x7 : Int32) (x8 : Int32) (x9 : Int32) (x10 : Int32) (x11 : Int32) (x12 : Int32) (x13 : Int32) (x14 : Int32) (x15 : Int32) (x16 : Int32) (x17 : Int32) (x18 : Int32) (x19 : Int32) (x20 : Int32) (x21 : Int32) (x22 : Int32) (x23 : Int32) (x24 : Int32) (x25 : Int32) (x26 : Int32) (x27 : Int32) (x28 : Int32) (x29 : Int32) (x30 : Int32) (x31 : Int32) (h0 : Heap) (n0 : Nat) (v : Option Value) (h : Heap) (L : List Loc) : Prop := v = some (.int x16) ∧ Fr n0 L ∧ h = h0
theorem efrm8_16_32 (m : MethodId) (x0 : Addr) : entryFrame m #[(.ref x0), (.int (16 : Int32))] 2 = mkF m 0 #[.val (.ref x0), .val (.int (16 : Int32))] [] := by first | (simp [entryFrame, mkF, argsToLocals, Value.category]; done) | rfl
set_option maxRecDepth 65536 in
set_option maxHeartbeats 40000000 in
theorem rm8_16_32 (l : Launch) (Z : State) (a0 : Array Value) (hw : ∀ d ∈ tables_1, d.before a0 Z = true) (ws : List Jvm.Cond) (a1 : Addr) (b1 : Addr) (k1 : ClassId) (x0 : Int32) (x1 : Int32) (x2 : Int32) (x3 : Int32) (x4 : Int32) (x5 : Int32) (x6 : Int32) (x7 : Int32) (x8 : Int32) (x9 : Int32) (x10 : Int32) (x11 : Int32) (x12 : Int32) (x13 : Int32) (x14 : Int32) (x15 : Int32) (x16 : Int32) (x17 : Int32) (x18 : Int32) (x19 : Int32) (x20 : Int32) (x21 : Int32) (x22 : Int32) (x23 : Int32) (x24 : Int32) (x25 : Int32) (x26 : Int32) (x27 : Int32) (x28 : Int32) (x29 : Int32) (x30 : Int32) (x31 : Int32) (h0 : Heap) (n0 : Nat) (Z0 : n0 ≤ h0.size) (P0 : Fld Z h0 a1 "com/example/axiomwright/axiomwright/Arcs" "from" "[I" (.ref b1)) (P1 : Arv Z h0 b1 k1 .int (32 : Int32) [(.int x0), (.int x1), (.int x2), (.int x3), (.int x4), (.int x5), (.int x6), (.int x7), (.int x8), (.int x9), (.int x10), (.int x11), (.int x12), (.int x13), (.int x14), (.int x15), (.int x16), (.int x17), (.int x18), (.int x19), (.int x20), (.int x21), (.int x22), (.int x23), (.int x24), (.int x25), (.int x26), (.int x27), (.int x28), (.int x29), (.int x30), (.int x31)] (.int (0 : Int32))) :
    MetFree l (⟨"com/example/axiomwright/axiomwright/Arcs", "tail", "(I)I"⟩ : MethodName) (head1 (Jvm.Cond.code (⟨"com/example/axiomwright/axiomwright/Arcs", "tail", "(I)I"⟩ : MethodName) prog_2_method_6_code 2 (some .int) :: ws) ({ frames := 0, cells := 0, slots := 0, locals := 0 } : Room)) (fun a U => a = #[(.ref a1), (.int (16 : Int32))] ∧ Z.Warmed39 U.vm ∧ U.heap = h0) (fun _ _ _ _ _ => True) (fun _ U o U' => ∃ v L, o = .returned v ∧ Qrm8_16_32 Z a1 b1 k1 x0 x1 x2 x3 x4 x5 x6 x7 x8 x9 x10 x11 x12 x13 x14 x15 x16 x17 x18 x19 x20 x21 x22 x23 x24 x25 x26 x27 x28 x29 x30 x31 h0 n0 v U'.heap L ∧ FrameEnd U o U' L ({ frames := 0, cells := 0, slots := 0, locals := 0 } : Room).cells ({ frames := 0, cells := 0, slots := 0, locals := 0 } : Room).slots) := by
  refine MetFree.of_bodySF (plainFor_of_name pn_0) hisR ?_
  intro p e s m args below meth c s₁ Bd hml0 hP hK
  obtain ⟨rfl, hZ, hh⟩ := hP
  have hx := Bd.exec
  have hby := Bd.bytes
  have hml : c.maxLocals = 2 := hml0
  have hown : s.vm.findClass "com/example/axiomwright/axiomwright/Arcs" = some m.cls := findClass_of_methodNamed Bd.named
  have hnm := (name_of_methodNamed Bd.named Bd.method).1
  have X0 : Stand p l e ({ frames := 0, cells := 0, slots := 0, locals := 0 } : Room) s m #[(.ref a1), (.int (16 : Int32))] below meth c s₁ [] 0 0 := Stand.of_body Bd
  have e0 : s₁.heap = h0 := by rw [← hh, Bd.state]; rfl
  have N0 := Fr.nil n0
  have K0 : Keep h0 h0 [] := Keep.refl h0 _
  refine own_go (B := s₁.setTop (mkF m 0 #[.val (.ref a1), .val (.int (16 : Int32))] [])) (fun t k => castTop (efrm8_16_32 m a1) k) ?_
  refine own_go (A := s₁.setTop (mkF m 0 #[.val (.ref a1), .val (.int (16 : Int32))] [])) (B := s₁.setTop (mkF m 1 #[.val (.ref a1), .val (.int (16 : Int32))] [(.ref a1)])) (fun t k => ?_) ?_
  · show Steps p.tables e below (s₁.setTop (mkF m 0 #[.val (.ref a1), .val (.int (16 : Int32))] [])) _
    refine XS.aloadN X0.here hx rfl (hb hby d8_0) rfl rfl ?_
    exact k
  obtain ⟨T460, X460, e460, st460⟩ := getF X0 hx hZ hown (host := "") (Or.inl (hw _ (List.mem_of_getElem? (i := 10) rfl))) Via.refl e0 P0 (g := (mkF m 1 #[.val (.ref a1), .val (.int (16 : Int32))] [(.ref a1)])) rfl rfl (hb hby d8_1)
  refine own_go st460 ?_
  refine own_go (A := T460.setTop (mkF m 4 #[.val (.ref a1), .val (.int (16 : Int32))] [(.ref b1)])) (B := T460.setTop (mkF m 5 #[.val (.ref a1), .val (.int (16 : Int32))] [(.int (16 : Int32)), (.ref b1)])) (fun t k => ?_) ?_
  · show Steps p.tables e below (T460.setTop (mkF m 4 #[.val (.ref a1), .val (.int (16 : Int32))] [(.ref b1)])) _
    refine XS.iloadN X460.here hx rfl (hb hby d8_4) rfl ?_
    exact k
  obtain ⟨cl461, Ar461, q461, S461, M461, Ha461, G461⟩ := id P1
  have hin461 : ¬ ((16 : Int32) < 0 ∨ cl461.slots.size ≤ ((16 : Int32)).toNatClampNeg) := inb_of S461 ⟨by decide, by decide⟩
  refine own_go (A := T460.setTop (mkF m 5 #[.val (.ref a1), .val (.int (16 : Int32))] [(.int (16 : Int32)), (.ref b1)])) (X460.iaload hx (j := (16 : Int32)) (v := (.int x16)) (by rw [e460]; exact Ar461.1) (State.isArrayOf_alike hZ.alike Ar461.2.1) Ar461.2.2 hin461 (Has.at Ha461 hin461 rfl) (g := (mkF m 5 #[.val (.ref a1), .val (.int (16 : Int32))] [(.int (16 : Int32)), (.ref b1)])) rfl rfl (hb hby d8_5)) ?_
  obtain ⟨fs, hr, hrun, hended, hW, hsame⟩ := X460.leave (v := some (.int x16)) (fun h => by rw [Bd.returns] at h; cases h)
  refine ⟨_, _, ?_, hrun, hended, _, _, rfl, ?_, ⟨_, rfl⟩, hW, hsame.mono (by decide) (by decide)⟩
  · show Steps p.tables e below (T460.setTop (mkF m 6 #[.val (.ref a1), .val (.int (16 : Int32))] [(.int x16)])) _
    exact retOut X460 hx Bd.returns rfl (Or.inl ⟨rfl, Or.inl rfl, _, rfl⟩) (hb hby d8_6) hr
  · show Qrm8_16_32 Z a1 b1 k1 x0 x1 x2 x3 x4 x5 x6 x7 x8 x9 x10 x11 x12 x13 x14 x15 x16 x17 x18 x19 x20 x21 x22 x23 x24 x25 x26 x27 x28 x29 x30 x31 h0 n0 _ T460.heap _
    rw [e460]
    exact ⟨rfl, N0, rfl⟩
def Qrm9_16_32 (Z : State) (a1 : Addr) (b1 : Addr) (k1 : ClassId) (x0 : Int32) (x1 : Int32) (x2 : Int32) (x3 : Int32) (x4 : Int32) (x5 : Int32) (x6 : Int32) (x7 : Int32) (x8 : Int32) (x9 : Int32) (x10 : Int32) (x11 : Int32) (x12 : Int32) (x13 : Int32) (x14 : Int32) (x15 : Int32) (x16 : Int32) (x17 : Int32) (x18 : Int32) (x19 : Int32) (x20 : Int32) (x21 : Int32) (x22 : Int32) (x23 : Int32) (x24 : Int32) (x25 : Int32) (x26 : Int32) (x27 : Int32) (x28 : Int32) (x29 : Int32) (x30 : Int32) (x31 : Int32) (h0 : Heap) (n0 : Nat) (v : Option Value) (h : Heap) (L : List Loc) : Prop := v = some (.int x16) ∧ Fr n0 L ∧ h = h0
theorem efrm9_16_32 (m : MethodId) (x0 : Addr) : entryFrame m #[(.ref x0), (.int (16 : Int32))] 2 = mkF m 0 #[.val (.ref x0), .val (.int (16 : Int32))] [] := by first | (simp [entryFrame, mkF, argsToLocals, Value.category]; done) | rfl
set_option maxRecDepth 65536 in
set_option maxHeartbeats 40000000 in
theorem rm9_16_32 (l : Launch) (Z : State) (a0 : Array Value) (hw : ∀ d ∈ tables_1, d.before a0 Z = true) (ws : List Jvm.Cond) (a1 : Addr) (b1 : Addr) (k1 : ClassId) (x0 : Int32) (x1 : Int32) (x2 : Int32) (x3 : Int32) (x4 : Int32) (x5 : Int32) (x6 : Int32) (x7 : Int32) (x8 : Int32) (x9 : Int32) (x10 : Int32) (x11 : Int32) (x12 : Int32) (x13 : Int32) (x14 : Int32) (x15 : Int32) (x16 : Int32) (x17 : Int32) (x18 : Int32) (x19 : Int32) (x20 : Int32) (x21 : Int32) (x22 : Int32) (x23 : Int32) (x24 : Int32) (x25 : Int32) (x26 : Int32) (x27 : Int32) (x28 : Int32) (x29 : Int32) (x30 : Int32) (x31 : Int32) (h0 : Heap) (n0 : Nat) (Z0 : n0 ≤ h0.size) (P0 : Fld Z h0 a1 "com/example/axiomwright/axiomwright/Arcs" "to" "[I" (.ref b1)) (P1 : Arv Z h0 b1 k1 .int (32 : Int32) [(.int x0), (.int x1), (.int x2), (.int x3), (.int x4), (.int x5), (.int x6), (.int x7), (.int x8), (.int x9), (.int x10), (.int x11), (.int x12), (.int x13), (.int x14), (.int x15), (.int x16), (.int x17), (.int x18), (.int x19), (.int x20), (.int x21), (.int x22), (.int x23), (.int x24), (.int x25), (.int x26), (.int x27), (.int x28), (.int x29), (.int x30), (.int x31)] (.int (0 : Int32))) :
    MetFree l (⟨"com/example/axiomwright/axiomwright/Arcs", "head", "(I)I"⟩ : MethodName) (head1 (Jvm.Cond.code (⟨"com/example/axiomwright/axiomwright/Arcs", "head", "(I)I"⟩ : MethodName) prog_2_method_7_code 2 (some .int) :: ws) ({ frames := 0, cells := 0, slots := 0, locals := 0 } : Room)) (fun a U => a = #[(.ref a1), (.int (16 : Int32))] ∧ Z.Warmed39 U.vm ∧ U.heap = h0) (fun _ _ _ _ _ => True) (fun _ U o U' => ∃ v L, o = .returned v ∧ Qrm9_16_32 Z a1 b1 k1 x0 x1 x2 x3 x4 x5 x6 x7 x8 x9 x10 x11 x12 x13 x14 x15 x16 x17 x18 x19 x20 x21 x22 x23 x24 x25 x26 x27 x28 x29 x30 x31 h0 n0 v U'.heap L ∧ FrameEnd U o U' L ({ frames := 0, cells := 0, slots := 0, locals := 0 } : Room).cells ({ frames := 0, cells := 0, slots := 0, locals := 0 } : Room).slots) := by
  refine MetFree.of_bodySF (plainFor_of_name pn_0) hisR ?_
  intro p e s m args below meth c s₁ Bd hml0 hP hK
  obtain ⟨rfl, hZ, hh⟩ := hP
  have hx := Bd.exec
  have hby := Bd.bytes
  have hml : c.maxLocals = 2 := hml0
  have hown : s.vm.findClass "com/example/axiomwright/axiomwright/Arcs" = some m.cls := findClass_of_methodNamed Bd.named
  have hnm := (name_of_methodNamed Bd.named Bd.method).1
  have X0 : Stand p l e ({ frames := 0, cells := 0, slots := 0, locals := 0 } : Room) s m #[(.ref a1), (.int (16 : Int32))] below meth c s₁ [] 0 0 := Stand.of_body Bd
  have e0 : s₁.heap = h0 := by rw [← hh, Bd.state]; rfl
  have N0 := Fr.nil n0
  have K0 : Keep h0 h0 [] := Keep.refl h0 _
  refine own_go (B := s₁.setTop (mkF m 0 #[.val (.ref a1), .val (.int (16 : Int32))] [])) (fun t k => castTop (efrm9_16_32 m a1) k) ?_
  refine own_go (A := s₁.setTop (mkF m 0 #[.val (.ref a1), .val (.int (16 : Int32))] [])) (B := s₁.setTop (mkF m 1 #[.val (.ref a1), .val (.int (16 : Int32))] [(.ref a1)])) (fun t k => ?_) ?_
  · show Steps p.tables e below (s₁.setTop (mkF m 0 #[.val (.ref a1), .val (.int (16 : Int32))] [])) _
    refine XS.aloadN X0.here hx rfl (hb hby d9_0) rfl rfl ?_
    exact k
  obtain ⟨T462, X462, e462, st462⟩ := getF X0 hx hZ hown (host := "") (Or.inl (hw _ (List.mem_of_getElem? (i := 12) rfl))) Via.refl e0 P0 (g := (mkF m 1 #[.val (.ref a1), .val (.int (16 : Int32))] [(.ref a1)])) rfl rfl (hb hby d9_1)
  refine own_go st462 ?_
  refine own_go (A := T462.setTop (mkF m 4 #[.val (.ref a1), .val (.int (16 : Int32))] [(.ref b1)])) (B := T462.setTop (mkF m 5 #[.val (.ref a1), .val (.int (16 : Int32))] [(.int (16 : Int32)), (.ref b1)])) (fun t k => ?_) ?_
  · show Steps p.tables e below (T462.setTop (mkF m 4 #[.val (.ref a1), .val (.int (16 : Int32))] [(.ref b1)])) _
    refine XS.iloadN X462.here hx rfl (hb hby d9_4) rfl ?_
    exact k
  obtain ⟨cl463, Ar463, q463, S463, M463, Ha463, G463⟩ := id P1
  have hin463 : ¬ ((16 : Int32) < 0 ∨ cl463.slots.size ≤ ((16 : Int32)).toNatClampNeg) := inb_of S463 ⟨by decide, by decide⟩
  refine own_go (A := T462.setTop (mkF m 5 #[.val (.ref a1), .val (.int (16 : Int32))] [(.int (16 : Int32)), (.ref b1)])) (X462.iaload hx (j := (16 : Int32)) (v := (.int x16)) (by rw [e462]; exact Ar463.1) (State.isArrayOf_alike hZ.alike Ar463.2.1) Ar463.2.2 hin463 (Has.at Ha463 hin463 rfl) (g := (mkF m 5 #[.val (.ref a1), .val (.int (16 : Int32))] [(.int (16 : Int32)), (.ref b1)])) rfl rfl (hb hby d9_5)) ?_
  obtain ⟨fs, hr, hrun, hended, hW, hsame⟩ := X462.leave (v := some (.int x16)) (fun h => by rw [Bd.returns] at h; cases h)
  refine ⟨_, _, ?_, hrun, hended, _, _, rfl, ?_, ⟨_, rfl⟩, hW, hsame.mono (by decide) (by decide)⟩
  · show Steps p.tables e below (T462.setTop (mkF m 6 #[.val (.ref a1), .val (.int (16 : Int32))] [(.int x16)])) _
    exact retOut X462 hx Bd.returns rfl (Or.inl ⟨rfl, Or.inl rfl, _, rfl⟩) (hb hby d9_6) hr
  · show Qrm9_16_32 Z a1 b1 k1 x0 x1 x2 x3 x4 x5 x6 x7 x8 x9 x10 x11 x12 x13 x14 x15 x16 x17 x18 x19 x20 x21 x22 x23 x24 x25 x26 x27 x28 x29 x30 x31 h0 n0 _ T462.heap _
    rw [e462]
    exact ⟨rfl, N0, rfl⟩
def Qrm8_9_16 (Z : State) (a1 : Addr) (b1 : Addr) (k1 : ClassId) (x0 : Int32) (x1 : Int32) (x2 : Int32) (x3 : Int32) (x4 : Int32) (x5 : Int32) (x6 : Int32) (x7 : Int32) (x8 : Int32) (x9 : Int32) (x10 : Int32) (x11 : Int32) (x12 : Int32) (x13 : Int32) (x14 : Int32) (x15 : Int32) (h0 : Heap) (n0 : Nat) (v : Option Value) (h : Heap) (L : List Loc) : Prop := v = some (.int x9) ∧ Fr n0 L ∧ h = h0
theorem efrm8_9_16 (m : MethodId) (x0 : Addr) : entryFrame m #[(.ref x0), (.int (9 : Int32))] 2 = mkF m 0 #[.val (.ref x0), .val (.int (9 : Int32))] [] := by first | (simp [entryFrame, mkF, argsToLocals, Value.category]; done) | rfl
set_option maxRecDepth 65536 in
set_option maxHeartbeats 40000000 in
theorem rm8_9_16 (l : Launch) (Z : State) (a0 : Array Value) (hw : ∀ d ∈ tables_1, d.before a0 Z = true) (ws : List Jvm.Cond) (a1 : Addr) (b1 : Addr) (k1 : ClassId) (x0 : Int32) (x1 : Int32) (x2 : Int32) (x3 : Int32) (x4 : Int32) (x5 : Int32) (x6 : Int32) (x7 : Int32) (x8 : Int32) (x9 : Int32) (x10 : Int32) (x11 : Int32) (x12 : Int32) (x13 : Int32) (x14 : Int32) (x15 : Int32) (h0 : Heap) (n0 : Nat) (Z0 : n0 ≤ h0.size) (P0 : Fld Z h0 a1 "com/example/axiomwright/axiomwright/Arcs" "from" "[I" (.ref b1)) (P1 : Arv Z h0 b1 k1 .int (16 : Int32) [(.int x0), (.int x1), (.int x2), (.int x3), (.int x4), (.int x5), (.int x6), (.int x7), (.int x8), (.int x9), (.int x10), (.int x11), (.int x12), (.int x13), (.int x14), (.int x15)] (.int (0 : Int32))) :
    MetFree l (⟨"com/example/axiomwright/axiomwright/Arcs", "tail", "(I)I"⟩ : MethodName) (head1 (Jvm.Cond.code (⟨"com/example/axiomwright/axiomwright/Arcs", "tail", "(I)I"⟩ : MethodName) prog_2_method_6_code 2 (some .int) :: ws) ({ frames := 0, cells := 0, slots := 0, locals := 0 } : Room)) (fun a U => a = #[(.ref a1), (.int (9 : Int32))] ∧ Z.Warmed39 U.vm ∧ U.heap = h0) (fun _ _ _ _ _ => True) (fun _ U o U' => ∃ v L, o = .returned v ∧ Qrm8_9_16 Z a1 b1 k1 x0 x1 x2 x3 x4 x5 x6 x7 x8 x9 x10 x11 x12 x13 x14 x15 h0 n0 v U'.heap L ∧ FrameEnd U o U' L ({ frames := 0, cells := 0, slots := 0, locals := 0 } : Room).cells ({ frames := 0, cells := 0, slots := 0, locals := 0 } : Room).slots) := by
  refine MetFree.of_bodySF (plainFor_of_name pn_0) hisR ?_
  intro p e s m args below meth c s₁ Bd hml0 hP hK
  obtain ⟨rfl, hZ, hh⟩ := hP
  have hx := Bd.exec
  have hby := Bd.bytes
  have hml : c.maxLocals = 2 := hml0
  have hown : s.vm.findClass "com/example/axiomwright/axiomwright/Arcs" = some m.cls := findClass_of_methodNamed Bd.named
  have hnm := (name_of_methodNamed Bd.named Bd.method).1
  have X0 : Stand p l e ({ frames := 0, cells := 0, slots := 0, locals := 0 } : Room) s m #[(.ref a1), (.int (9 : Int32))] below meth c s₁ [] 0 0 := Stand.of_body Bd
  have e0 : s₁.heap = h0 := by rw [← hh, Bd.state]; rfl
  have N0 := Fr.nil n0
  have K0 : Keep h0 h0 [] := Keep.refl h0 _
  refine own_go (B := s₁.setTop (mkF m 0 #[.val (.ref a1), .val (.int (9 : Int32))] [])) (fun t k => castTop (efrm8_9_16 m a1) k) ?_
  refine own_go (A := s₁.setTop (mkF m 0 #[.val (.ref a1), .val (.int (9 : Int32))] [])) (B := s₁.setTop (mkF m 1 #[.val (.ref a1), .val (.int (9 : Int32))] [(.ref a1)])) (fun t k => ?_) ?_
  · show Steps p.tables e below (s₁.setTop (mkF m 0 #[.val (.ref a1), .val (.int (9 : Int32))] [])) _
    refine XS.aloadN X0.here hx rfl (hb hby d8_0) rfl rfl ?_
    exact k
  obtain ⟨T464, X464, e464, st464⟩ := getF X0 hx hZ hown (host := "") (Or.inl (hw _ (List.mem_of_getElem? (i := 10) rfl))) Via.refl e0 P0 (g := (mkF m 1 #[.val (.ref a1), .val (.int (9 : Int32))] [(.ref a1)])) rfl rfl (hb hby d8_1)
  refine own_go st464 ?_
  refine own_go (A := T464.setTop (mkF m 4 #[.val (.ref a1), .val (.int (9 : Int32))] [(.ref b1)])) (B := T464.setTop (mkF m 5 #[.val (.ref a1), .val (.int (9 : Int32))] [(.int (9 : Int32)), (.ref b1)])) (fun t k => ?_) ?_
  · show Steps p.tables e below (T464.setTop (mkF m 4 #[.val (.ref a1), .val (.int (9 : Int32))] [(.ref b1)])) _
    refine XS.iloadN X464.here hx rfl (hb hby d8_4) rfl ?_
    exact k
  obtain ⟨cl465, Ar465, q465, S465, M465, Ha465, G465⟩ := id P1
  have hin465 : ¬ ((9 : Int32) < 0 ∨ cl465.slots.size ≤ ((9 : Int32)).toNatClampNeg) := inb_of S465 ⟨by decide, by decide⟩
  refine own_go (A := T464.setTop (mkF m 5 #[.val (.ref a1), .val (.int (9 : Int32))] [(.int (9 : Int32)), (.ref b1)])) (X464.iaload hx (j := (9 : Int32)) (v := (.int x9)) (by rw [e464]; exact Ar465.1) (State.isArrayOf_alike hZ.alike Ar465.2.1) Ar465.2.2 hin465 (Has.at Ha465 hin465 rfl) (g := (mkF m 5 #[.val (.ref a1), .val (.int (9 : Int32))] [(.int (9 : Int32)), (.ref b1)])) rfl rfl (hb hby d8_5)) ?_
  obtain ⟨fs, hr, hrun, hended, hW, hsame⟩ := X464.leave (v := some (.int x9)) (fun h => by rw [Bd.returns] at h; cases h)
  refine ⟨_, _, ?_, hrun, hended, _, _, rfl, ?_, ⟨_, rfl⟩, hW, hsame.mono (by decide) (by decide)⟩
  · show Steps p.tables e below (T464.setTop (mkF m 6 #[.val (.ref a1), .val (.int (9 : Int32))] [(.int x9)])) _
    exact retOut X464 hx Bd.returns rfl (Or.inl ⟨rfl, Or.inl rfl, _, rfl⟩) (hb hby d8_6) hr
  · show Qrm8_9_16 Z a1 b1 k1 x0 x1 x2 x3 x4 x5 x6 x7 x8 x9 x10 x11 x12 x13 x14 x15 h0 n0 _ T464.heap _
    rw [e464]
    exact ⟨rfl, N0, rfl⟩
def Qrm9_9_16 (Z : State) (a1 : Addr) (b1 : Addr) (k1 : ClassId) (x0 : Int32) (x1 : Int32) (x2 : Int32) (x3 : Int32) (x4 : Int32) (x5 : Int32) (x6 : Int32) (x7 : Int32) (x8 : Int32) (x9 : Int32) (x10 : Int32) (x11 : Int32) (x12 : Int32) (x13 : Int32) (x14 : Int32) (x15 : Int32) (h0 : Heap) (n0 : Nat) (v : Option Value) (h : Heap) (L : List Loc) : Prop := v = some (.int x9) ∧ Fr n0 L ∧ h = h0
theorem efrm9_9_16 (m : MethodId) (x0 : Addr) : entryFrame m #[(.ref x0), (.int (9 : Int32))] 2 = mkF m 0 #[.val (.ref x0), .val (.int (9 : Int32))] [] := by first | (simp [entryFrame, mkF, argsToLocals, Value.category]; done) | rfl
set_option maxRecDepth 65536 in
set_option maxHeartbeats 40000000 in
theorem rm9_9_16 (l : Launch) (Z : State) (a0 : Array Value) (hw : ∀ d ∈ tables_1, d.before a0 Z = true) (ws : List Jvm.Cond) (a1 : Addr) (b1 : Addr) (k1 : ClassId) (x0 : Int32) (x1 : Int32) (x2 : Int32) (x3 : Int32) (x4 : Int32) (x5 : Int32) (x6 : Int32) (x7 : Int32) (x8 : Int32) (x9 : Int32) (x10 : Int32) (x11 : Int32) (x12 : Int32) (x13 : Int32) (x14 : Int32) (x15 : Int32) (h0 : Heap) (n0 : Nat) (Z0 : n0 ≤ h0.size) (P0 : Fld Z h0 a1 "com/example/axiomwright/axiomwright/Arcs" "to" "[I" (.ref b1)) (P1 : Arv Z h0 b1 k1 .int (16 : Int32) [(.int x0), (.int x1), (.int x2), (.int x3), (.int x4), (.int x5), (.int x6), (.int x7), (.int x8), (.int x9), (.int x10), (.int x11), (.int x12), (.int x13), (.int x14), (.int x15)] (.int (0 : Int32))) :
    MetFree l (⟨"com/example/axiomwright/axiomwright/Arcs", "head", "(I)I"⟩ : MethodName) (head1 (Jvm.Cond.code (⟨"com/example/axiomwright/axiomwright/Arcs", "head", "(I)I"⟩ : MethodName) prog_2_method_7_code 2 (some .int) :: ws) ({ frames := 0, cells := 0, slots := 0, locals := 0 } : Room)) (fun a U => a = #[(.ref a1), (.int (9 : Int32))] ∧ Z.Warmed39 U.vm ∧ U.heap = h0) (fun _ _ _ _ _ => True) (fun _ U o U' => ∃ v L, o = .returned v ∧ Qrm9_9_16 Z a1 b1 k1 x0 x1 x2 x3 x4 x5 x6 x7 x8 x9 x10 x11 x12 x13 x14 x15 h0 n0 v U'.heap L ∧ FrameEnd U o U' L ({ frames := 0, cells := 0, slots := 0, locals := 0 } : Room).cells ({ frames := 0, cells := 0, slots := 0, locals := 0 } : Room).slots) := by
  refine MetFree.of_bodySF (plainFor_of_name pn_0) hisR ?_
  intro p e s m args below meth c s₁ Bd hml0 hP hK
  obtain ⟨rfl, hZ, hh⟩ := hP
  have hx := Bd.exec
  have hby := Bd.bytes
  have hml : c.maxLocals = 2 := hml0
  have hown : s.vm.findClass "com/example/axiomwright/axiomwright/Arcs" = some m.cls := findClass_of_methodNamed Bd.named
  have hnm := (name_of_methodNamed Bd.named Bd.method).1
  have X0 : Stand p l e ({ frames := 0, cells := 0, slots := 0, locals := 0 } : Room) s m #[(.ref a1), (.int (9 : Int32))] below meth c s₁ [] 0 0 := Stand.of_body Bd
  have e0 : s₁.heap = h0 := by rw [← hh, Bd.state]; rfl
  have N0 := Fr.nil n0
  have K0 : Keep h0 h0 [] := Keep.refl h0 _
  refine own_go (B := s₁.setTop (mkF m 0 #[.val (.ref a1), .val (.int (9 : Int32))] [])) (fun t k => castTop (efrm9_9_16 m a1) k) ?_
  refine own_go (A := s₁.setTop (mkF m 0 #[.val (.ref a1), .val (.int (9 : Int32))] [])) (B := s₁.setTop (mkF m 1 #[.val (.ref a1), .val (.int (9 : Int32))] [(.ref a1)])) (fun t k => ?_) ?_
  · show Steps p.tables e below (s₁.setTop (mkF m 0 #[.val (.ref a1), .val (.int (9 : Int32))] [])) _
    refine XS.aloadN X0.here hx rfl (hb hby d9_0) rfl rfl ?_
    exact k
  obtain ⟨T466, X466, e466, st466⟩ := getF X0 hx hZ hown (host := "") (Or.inl (hw _ (List.mem_of_getElem? (i := 12) rfl))) Via.refl e0 P0 (g := (mkF m 1 #[.val (.ref a1), .val (.int (9 : Int32))] [(.ref a1)])) rfl rfl (hb hby d9_1)
  refine own_go st466 ?_
  refine own_go (A := T466.setTop (mkF m 4 #[.val (.ref a1), .val (.int (9 : Int32))] [(.ref b1)])) (B := T466.setTop (mkF m 5 #[.val (.ref a1), .val (.int (9 : Int32))] [(.int (9 : Int32)), (.ref b1)])) (fun t k => ?_) ?_
  · show Steps p.tables e below (T466.setTop (mkF m 4 #[.val (.ref a1), .val (.int (9 : Int32))] [(.ref b1)])) _
    refine XS.iloadN X466.here hx rfl (hb hby d9_4) rfl ?_
    exact k
  obtain ⟨cl467, Ar467, q467, S467, M467, Ha467, G467⟩ := id P1
  have hin467 : ¬ ((9 : Int32) < 0 ∨ cl467.slots.size ≤ ((9 : Int32)).toNatClampNeg) := inb_of S467 ⟨by decide, by decide⟩
  refine own_go (A := T466.setTop (mkF m 5 #[.val (.ref a1), .val (.int (9 : Int32))] [(.int (9 : Int32)), (.ref b1)])) (X466.iaload hx (j := (9 : Int32)) (v := (.int x9)) (by rw [e466]; exact Ar467.1) (State.isArrayOf_alike hZ.alike Ar467.2.1) Ar467.2.2 hin467 (Has.at Ha467 hin467 rfl) (g := (mkF m 5 #[.val (.ref a1), .val (.int (9 : Int32))] [(.int (9 : Int32)), (.ref b1)])) rfl rfl (hb hby d9_5)) ?_
  obtain ⟨fs, hr, hrun, hended, hW, hsame⟩ := X466.leave (v := some (.int x9)) (fun h => by rw [Bd.returns] at h; cases h)
  refine ⟨_, _, ?_, hrun, hended, _, _, rfl, ?_, ⟨_, rfl⟩, hW, hsame.mono (by decide) (by decide)⟩
  · show Steps p.tables e below (T466.setTop (mkF m 6 #[.val (.ref a1), .val (.int (9 : Int32))] [(.int x9)])) _
    exact retOut X466 hx Bd.returns rfl (Or.inl ⟨rfl, Or.inl rfl, _, rfl⟩) (hb hby d9_6) hr
  · show Qrm9_9_16 Z a1 b1 k1 x0 x1 x2 x3 x4 x5 x6 x7 x8 x9 x10 x11 x12 x13 x14 x15 h0 n0 _ T466.heap _
    rw [e466]
    exact ⟨rfl, N0, rfl⟩
def Qrm0 (Z : State) (p1 : Int32) (p2 : Int32) (p3 : Int32) (p4 : Int32) (p5 : Int32) (p6 : Int32) (h0 : Heap) (n0 : Nat) (v : Option Value) (h : Heap) (L : List Loc) : Prop := v = some (.int (1 : Int32)) ∧ Fr n0 L
theorem efrm0 (m : MethodId) (x0 : Int32) (x1 : Int32) (x2 : Int32) (x3 : Int32) (x4 : Int32) (x5 : Int32) : entryFrame m #[(.int x0), (.int x1), (.int x2), (.int x3), (.int x4), (.int x5)] maxLocals = mkF m 0 #[.val (.int x0), .val (.int x1), .val (.int x2), .val (.int x3), .val (.int x4), .val (.int x5), .unset, .unset, .unset, .unset, .unset, .unset, .unset] [] := by first | (simp [entryFrame, mkF, argsToLocals, Value.category, maxLocals]; done) | rfl
set_option maxRecDepth 65536 in
set_option maxHeartbeats 40000000 in
theorem rm0 (l : Launch) (Z : State) (a0 : Array Value) (hw : ∀ d ∈ tables_1, d.before a0 Z = true) (ws : List Jvm.Cond) (p1 : Int32) (p2 : Int32) (p3 : Int32) (p4 : Int32) (p5 : Int32) (p6 : Int32) (h0 : Heap) (n0 : Nat) (Z0 : n0 ≤ h0.size)  :
    MetFree l x (head1 (Jvm.Cond.code x code maxLocals ret :: ws) room_1) (fun a U => a = #[(.int p1), (.int p2), (.int p3), (.int p4), (.int p5), (.int p6)] ∧ Z.Warmed39 U.vm ∧ U.heap = h0) (fun _ _ _ _ _ => True) (fun _ U o U' => ∃ v L, o = .returned v ∧ Qrm0 Z p1 p2 p3 p4 p5 p6 h0 n0 v U'.heap L ∧ FrameEnd U o U' L room_1.cells room_1.slots) := by
  refine MetFree.of_bodySF (plainFor_of_name pn_2) hisR ?_
  intro p e s m args below meth c s₁ Bd hml0 hP hK
  obtain ⟨rfl, hZ, hh⟩ := hP
  have hx := Bd.exec
  have hby := Bd.bytes
  have hml : c.maxLocals = 13 := hml0
  have hown : s.vm.findClass "com/example/axiomwright/axiomwright/ArcsAddPinLaw" = some m.cls := findClass_of_methodNamed Bd.named
  have hnm := (name_of_methodNamed Bd.named Bd.method).1
  have X0 : Stand p l e room_1 s m #[(.int p1), (.int p2), (.int p3), (.int p4), (.int p5), (.int p6)] below meth c s₁ [] 0 0 := Stand.of_body Bd
  have e0 : s₁.heap = h0 := by rw [← hh, Bd.state]; rfl
  have N0 := Fr.nil n0
  have K0 : Keep h0 h0 [] := Keep.refl h0 _
  refine own_go (B := s₁.setTop (mkF m 0 #[.val (.int p1), .val (.int p2), .val (.int p3), .val (.int p4), .val (.int p5), .val (.int p6), .unset, .unset, .unset, .unset, .unset, .unset, .unset] [])) (fun t k => castTop (efrm0 m p1 p2 p3 p4 p5 p6) k) ?_
  obtain ⟨T468, h468, X468, e468, E468, A468, D468, -, st468⟩ := newO X0 hx hZ hown (hw _ (List.mem_of_getElem? (i := 0) rfl)) (hw _ (List.mem_of_getElem? (i := 1) rfl)) (hw _ (List.mem_of_getElem? (i := 2) rfl)) e0 (g := (mkF m 0 #[.val (.int p1), .val (.int p2), .val (.int p3), .val (.int p4), .val (.int p5), .val (.int p6), .unset, .unset, .unset, .unset, .unset, .unset, .unset] [])) rfl (hb hby at_0) (by decide) (by decide)
  obtain ⟨b468, g468⟩ : ∃ z, z = h0.size := ⟨_, rfl⟩
  rw [← g468] at A468 D468 st468
  have low468 : n0 ≤ b468 := Nat.le_trans Z0 (Nat.le_of_eq g468.symm)
  have sz468 : h0.size ≤ b468 := Nat.le_trans K0.1 (Nat.le_of_eq g468.symm)
  have Z468 : n0 ≤ h468.size := Nat.le_trans Z0 E468.1
  have K468 := K0.ext E468
  have D468_from_Arcs : Fld Z h468 b468 "com/example/axiomwright/axiomwright/Arcs" "from" "[I" .null := D468 (Or.inl (hw _ (List.mem_of_getElem? (i := 11) rfl))) (ty := (.array .int)) (by decide)
  have D468_to_Arcs : Fld Z h468 b468 "com/example/axiomwright/axiomwright/Arcs" "to" "[I" .null := D468 (Or.inl (hw _ (List.mem_of_getElem? (i := 13) rfl))) (ty := (.array .int)) (by decide)
  have D468_size_Arcs : Fld Z h468 b468 "com/example/axiomwright/axiomwright/Arcs" "size" "I" (.int (0 : Int32)) := D468 (Or.inl (hw _ (List.mem_of_getElem? (i := 20) rfl))) (ty := .int) (by decide)
  refine own_go st468 ?_
  refine own_go (A := T468.setTop (mkF m 3 #[.val (.int p1), .val (.int p2), .val (.int p3), .val (.int p4), .val (.int p5), .val (.int p6), .unset, .unset, .unset, .unset, .unset, .unset, .unset] [(.ref b468)])) (B := T468.setTop (mkF m 4 #[.val (.int p1), .val (.int p2), .val (.int p3), .val (.int p4), .val (.int p5), .val (.int p6), .unset, .unset, .unset, .unset, .unset, .unset, .unset] [(.ref b468), (.ref b468)])) (fun t k => ?_) ?_
  · show Steps p.tables e below (T468.setTop (mkF m 3 #[.val (.int p1), .val (.int p2), .val (.int p3), .val (.int p4), .val (.int p5), .val (.int p6), .unset, .unset, .unset, .unset, .unset, .unset, .unset] [(.ref b468)])) _
    refine XS.dup X468.here hx rfl (hb hby at_3) rfl rfl ?_
    exact k
  obtain ⟨_, _, ⟨T469, L469, k469, n469⟩, -, X469, ⟨Lc469, hQ469, l469, y469, z469⟩, st469⟩ := X468.specialBack hx (y := (⟨"com/example/axiomwright/axiomwright/Arcs", "<init>", "()V"⟩ : MethodName)) rfl hown (mvT hZ (hw _ (List.mem_of_getElem? (i := 3) rfl))) (mvT hZ (hw _ (List.mem_of_getElem? (i := 4) rfl))) (mvT hZ (hw _ (List.mem_of_getElem? (i := 5) rfl))) (by decide) (backOf (W := 1) (rm1 l Z a0 hw [] b468 h468 n0 Z468 A468 D468_from_Arcs D468_to_Arcs D468_size_Arcs low468) hZ (hw _ (List.mem_of_getElem? (i := 5) rfl)) (hw _ (List.mem_of_getElem? (i := 2) rfl)) (by decide) (by decide)) (g := (mkF m 4 #[.val (.int p1), .val (.int p2), .val (.int p3), .val (.int p4), .val (.int p5), .val (.int p6), .unset, .unset, .unset, .unset, .unset, .unset, .unset] [(.ref b468), (.ref b468)])) rfl (by rw [hml]; rfl) (Steps.refl _) (a := b468) (argsL := []) (rest := [(.ref b468)]) (lenOf pd_3 rfl) rfl (by show 2 * 0 + _ ≤ _; exact Nat.le_of_eq rfl) (hb hby at_4) (fun _ _ => ⟨rfl, e468, (by decide : 1 + 2 ≤ _), (by decide : 3 + 32 ≤ _)⟩)
  dsimp only [Pt.U, Pt.locs, Pt.cells, Pt.slots] at X469 l469 y469 z469 st469 hQ469
  subst l469 y469 z469
  obtain ⟨b1_469, b2_469, k1_469, k2_469, rfl, Nq469, Kq469, sq_b1_469, sq_b2_469, pq469_0, U469_0, U469_1, U469_2, U469_3, U469_4⟩ := hQ469
  have ne_b468_b1_469 : b468 ≠ b1_469 := Nat.ne_of_lt (Nat.lt_of_lt_of_le A468.lt sq_b1_469)
  have low_b1_469 : n0 ≤ b1_469 := Nat.le_trans Z468 sq_b1_469
  have sz_b1_469 : h0.size ≤ b1_469 := Nat.le_trans K468.1 sq_b1_469
  have ne_b468_b2_469 : b468 ≠ b2_469 := Nat.ne_of_lt (Nat.lt_of_lt_of_le A468.lt sq_b2_469)
  have low_b2_469 : n0 ≤ b2_469 := Nat.le_trans Z468 sq_b2_469
  have sz_b2_469 : h0.size ≤ b2_469 := Nat.le_trans K468.1 sq_b2_469
  have Q470 : Exa Z T469.heap b468 "com/example/axiomwright/axiomwright/Arcs" := A468.keep Kq469
  have Z469 : n0 ≤ T469.heap.size := Nat.le_trans Z468 Kq469.1
  have K469 : Keep h0 T469.heap [] := K468.trans Kq469 (allS (Or.inr sz468) all0)
  have N469 := Fr.app N0 Nq469
  refine own_go (A := _) (B := T469.setTop (mkF m 7 #[.val (.int p1), .val (.int p2), .val (.int p3), .val (.int p4), .val (.int p5), .val (.int p6), .unset, .unset, .unset, .unset, .unset, .unset, .unset] [(.ref b468)])) (fun t k => st469.trans k) ?_
  refine own_go (A := T469.setTop (mkF m 7 #[.val (.int p1), .val (.int p2), .val (.int p3), .val (.int p4), .val (.int p5), .val (.int p6), .unset, .unset, .unset, .unset, .unset, .unset, .unset] [(.ref b468)])) (B := T469.setTop (mkF m 13 #[.val (.int p1), .val (.int p2), .val (.int p3), .val (.int p4), .val (.int p5), .val (.int p6), .val (.ref b468), .unset, .unset, .unset, .unset, .unset, .unset] [(.int p2), (.int p1), (.ref b468)])) (fun t k => ?_) ?_
  · show Steps p.tables e below (T469.setTop (mkF m 7 #[.val (.int p1), .val (.int p2), .val (.int p3), .val (.int p4), .val (.int p5), .val (.int p6), .unset, .unset, .unset, .unset, .unset, .unset, .unset] [(.ref b468)])) _
    refine XS.astore X469.here hx rfl (hb hby at_7) rfl rfl (l' := #[.val (.int p1), .val (.int p2), .val (.int p3), .val (.int p4), .val (.int p5), .val (.int p6), .val (.ref b468), .unset, .unset, .unset, .unset, .unset, .unset]) rfl ?_
    show Steps p.tables e below (T469.setTop (mkF m 9 #[.val (.int p1), .val (.int p2), .val (.int p3), .val (.int p4), .val (.int p5), .val (.int p6), .val (.ref b468), .unset, .unset, .unset, .unset, .unset, .unset] [])) _
    refine XS.aload X469.here hx rfl (hb hby at_9) rfl rfl ?_
    show Steps p.tables e below (T469.setTop (mkF m 11 #[.val (.int p1), .val (.int p2), .val (.int p3), .val (.int p4), .val (.int p5), .val (.int p6), .val (.ref b468), .unset, .unset, .unset, .unset, .unset, .unset] [(.ref b468)])) _
    refine XS.iloadN X469.here hx rfl (hb hby at_11) rfl ?_
    show Steps p.tables e below (T469.setTop (mkF m 12 #[.val (.int p1), .val (.int p2), .val (.int p3), .val (.int p4), .val (.int p5), .val (.int p6), .val (.ref b468), .unset, .unset, .unset, .unset, .unset, .unset] [(.int p1), (.ref b468)])) _
    refine XS.iloadN X469.here hx rfl (hb hby at_12) rfl ?_
    exact k
  obtain ⟨cq471, kq471, q471a, q471b, q471c⟩ := isOf hZ rfl Q470
  obtain ⟨_, _, ⟨T471, L471, k471, n471⟩, -, X471, ⟨Lc471, hQ471, l471, y471, z471⟩, st471⟩ := X469.virtualBack hx (y := (⟨"com/example/axiomwright/axiomwright/Arcs", "add", "(II)V"⟩ : MethodName)) (z := (⟨"com/example/axiomwright/axiomwright/Arcs", "add", "(II)V"⟩ : MethodName)) hown (mvT hZ (hw _ (List.mem_of_getElem? (i := 14) rfl))) (mvT hZ (hw _ (List.mem_of_getElem? (i := 15) rfl))) (notFace_of_selects (args := #[]) (mvT hZ (hw _ (List.mem_of_getElem? (i := 17) rfl)))) (mvT hZ (hw _ (List.mem_of_getElem? (i := 17) rfl))) (mvT hZ (hw _ (List.mem_of_getElem? (i := 16) rfl))) (by decide) (backOf (W := 0) (rm3 l Z a0 hw [] b468 p1 p2 (0 : Int32) b1_469 b2_469 k1_469 k2_469 [(.int (0 : Int32)), (.int (0 : Int32)), (.int (0 : Int32)), (.int (0 : Int32)), (.int (0 : Int32)), (.int (0 : Int32)), (.int (0 : Int32)), (.int (0 : Int32)), (.int (0 : Int32)), (.int (0 : Int32)), (.int (0 : Int32)), (.int (0 : Int32)), (.int (0 : Int32)), (.int (0 : Int32)), (.int (0 : Int32)), (.int (0 : Int32))] [(.int (0 : Int32)), (.int (0 : Int32)), (.int (0 : Int32)), (.int (0 : Int32)), (.int (0 : Int32)), (.int (0 : Int32)), (.int (0 : Int32)), (.int (0 : Int32)), (.int (0 : Int32)), (.int (0 : Int32)), (.int (0 : Int32)), (.int (0 : Int32)), (.int (0 : Int32)), (.int (0 : Int32)), (.int (0 : Int32)), (.int (0 : Int32))] T469.heap n0 Z469 Q470 U469_2 U469_0 U469_1 U469_3 U469_4 low468 low_b1_469 low_b2_469 ne_b468_b1_469 ne_b468_b2_469 pq469_0 (by decide) (by decide) (by decide) (Nat.le_of_ble_eq_true rfl) (Nat.le_of_ble_eq_true rfl)) hZ (hw _ (List.mem_of_getElem? (i := 18) rfl)) (hw _ (List.mem_of_getElem? (i := 2) rfl)) (by decide) (by decide)) q471a q471c (g := (mkF m 13 #[.val (.int p1), .val (.int p2), .val (.int p3), .val (.int p4), .val (.int p5), .val (.int p6), .val (.ref b468), .unset, .unset, .unset, .unset, .unset, .unset] [(.int p2), (.int p1), (.ref b468)])) rfl (by rw [hml]; rfl) (Steps.refl _) (argsL := [(.int p1), (.int p2)]) (rest := []) (lenOf pd_0 rfl) rfl (by show 2 * 0 + _ ≤ _; exact Nat.le_of_eq rfl) (hb hby at_13) (fun _ _ => ⟨rfl, rfl, (by decide : 3 + 0 ≤ _), (by decide : 35 + 0 ≤ _)⟩)
  dsimp only [Pt.U, Pt.locs, Pt.cells, Pt.slots] at X471 l471 y471 z471 st471 hQ471
  subst l471 y471 z471
  obtain ⟨rfl, Nq471, Kq471, U471_0, U471_1, U471_2, U471_3, U471_4⟩ := hQ471
  have Q472 : Exa Z T471.heap b468 "com/example/axiomwright/axiomwright/Arcs" := Q470.keep Kq471
  have U471_0n : Fld Z T471.heap b468 "com/example/axiomwright/axiomwright/Arcs" "size" "I" (.int (1 : Int32)) := U471_0
  have U471_3n : Arv Z T471.heap b1_469 k1_469 .int (16 : Int32) [(.int p1), (.int (0 : Int32)), (.int (0 : Int32)), (.int (0 : Int32)), (.int (0 : Int32)), (.int (0 : Int32)), (.int (0 : Int32)), (.int (0 : Int32)), (.int (0 : Int32)), (.int (0 : Int32)), (.int (0 : Int32)), (.int (0 : Int32)), (.int (0 : Int32)), (.int (0 : Int32)), (.int (0 : Int32)), (.int (0 : Int32))] (.int (0 : Int32)) := U471_3
  have U471_4n : Arv Z T471.heap b2_469 k2_469 .int (16 : Int32) [(.int p2), (.int (0 : Int32)), (.int (0 : Int32)), (.int (0 : Int32)), (.int (0 : Int32)), (.int (0 : Int32)), (.int (0 : Int32)), (.int (0 : Int32)), (.int (0 : Int32)), (.int (0 : Int32)), (.int (0 : Int32)), (.int (0 : Int32)), (.int (0 : Int32)), (.int (0 : Int32)), (.int (0 : Int32)), (.int (0 : Int32))] (.int (0 : Int32)) := U471_4
  have Z471 : n0 ≤ T471.heap.size := Nat.le_trans Z469 Kq471.1
  have K471 : Keep h0 T471.heap [] := K469.trans Kq471 (allS (Or.inr sz468) (allS (Or.inr sz_b1_469) (allS (Or.inr sz_b2_469) all0)))
  have N471 := Fr.app N469 Nq471
  refine own_go (A := _) (B := T471.setTop (mkF m 16 #[.val (.int p1), .val (.int p2), .val (.int p3), .val (.int p4), .val (.int p5), .val (.int p6), .val (.ref b468), .unset, .unset, .unset, .unset, .unset, .unset] [])) (fun t k => st471.trans k) ?_
  refine own_go (A := T471.setTop (mkF m 16 #[.val (.int p1), .val (.int p2), .val (.int p3), .val (.int p4), .val (.int p5), .val (.int p6), .val (.ref b468), .unset, .unset, .unset, .unset, .unset, .unset] [])) (B := T471.setTop (mkF m 20 #[.val (.int p1), .val (.int p2), .val (.int p3), .val (.int p4), .val (.int p5), .val (.int p6), .val (.ref b468), .unset, .unset, .unset, .unset, .unset, .unset] [(.int p4), (.int p3), (.ref b468)])) (fun t k => ?_) ?_
  · show Steps p.tables e below (T471.setTop (mkF m 16 #[.val (.int p1), .val (.int p2), .val (.int p3), .val (.int p4), .val (.int p5), .val (.int p6), .val (.ref b468), .unset, .unset, .unset, .unset, .unset, .unset] [])) _
    refine XS.aload X471.here hx rfl (hb hby at_16) rfl rfl ?_
    show Steps p.tables e below (T471.setTop (mkF m 18 #[.val (.int p1), .val (.int p2), .val (.int p3), .val (.int p4), .val (.int p5), .val (.int p6), .val (.ref b468), .unset, .unset, .unset, .unset, .unset, .unset] [(.ref b468)])) _
    refine XS.iloadN X471.here hx rfl (hb hby at_18) rfl ?_
    show Steps p.tables e below (T471.setTop (mkF m 19 #[.val (.int p1), .val (.int p2), .val (.int p3), .val (.int p4), .val (.int p5), .val (.int p6), .val (.ref b468), .unset, .unset, .unset, .unset, .unset, .unset] [(.int p3), (.ref b468)])) _
    refine XS.iloadN X471.here hx rfl (hb hby at_19) rfl ?_
    exact k
  obtain ⟨cq473, kq473, q473a, q473b, q473c⟩ := isOf hZ rfl Q472
  obtain ⟨_, _, ⟨T473, L473, k473, n473⟩, -, X473, ⟨Lc473, hQ473, l473, y473, z473⟩, st473⟩ := X471.virtualBack hx (y := (⟨"com/example/axiomwright/axiomwright/Arcs", "add", "(II)V"⟩ : MethodName)) (z := (⟨"com/example/axiomwright/axiomwright/Arcs", "add", "(II)V"⟩ : MethodName)) hown (mvT hZ (hw _ (List.mem_of_getElem? (i := 14) rfl))) (mvT hZ (hw _ (List.mem_of_getElem? (i := 15) rfl))) (notFace_of_selects (args := #[]) (mvT hZ (hw _ (List.mem_of_getElem? (i := 17) rfl)))) (mvT hZ (hw _ (List.mem_of_getElem? (i := 17) rfl))) (mvT hZ (hw _ (List.mem_of_getElem? (i := 16) rfl))) (by decide) (backOf (W := 0) (rm3 l Z a0 hw [] b468 p3 p4 (1 : Int32) b1_469 b2_469 k1_469 k2_469 [(.int p1), (.int (0 : Int32)), (.int (0 : Int32)), (.int (0 : Int32)), (.int (0 : Int32)), (.int (0 : Int32)), (.int (0 : Int32)), (.int (0 : Int32)), (.int (0 : Int32)), (.int (0 : Int32)), (.int (0 : Int32)), (.int (0 : Int32)), (.int (0 : Int32)), (.int (0 : Int32)), (.int (0 : Int32)), (.int (0 : Int32))] [(.int p2), (.int (0 : Int32)), (.int (0 : Int32)), (.int (0 : Int32)), (.int (0 : Int32)), (.int (0 : Int32)), (.int (0 : Int32)), (.int (0 : Int32)), (.int (0 : Int32)), (.int (0 : Int32)), (.int (0 : Int32)), (.int (0 : Int32)), (.int (0 : Int32)), (.int (0 : Int32)), (.int (0 : Int32)), (.int (0 : Int32))] T471.heap n0 Z471 Q472 U471_0n U471_1 U471_2 U471_3n U471_4n low468 low_b1_469 low_b2_469 ne_b468_b1_469 ne_b468_b2_469 pq469_0 (by decide) (by decide) (by decide) (Nat.le_of_ble_eq_true rfl) (Nat.le_of_ble_eq_true rfl)) hZ (hw _ (List.mem_of_getElem? (i := 18) rfl)) (hw _ (List.mem_of_getElem? (i := 2) rfl)) (by decide) (by decide)) q473a q473c (g := (mkF m 20 #[.val (.int p1), .val (.int p2), .val (.int p3), .val (.int p4), .val (.int p5), .val (.int p6), .val (.ref b468), .unset, .unset, .unset, .unset, .unset, .unset] [(.int p4), (.int p3), (.ref b468)])) rfl (by rw [hml]; rfl) (Steps.refl _) (argsL := [(.int p3), (.int p4)]) (rest := []) (lenOf pd_0 rfl) rfl (by show 2 * 0 + _ ≤ _; exact Nat.le_of_eq rfl) (hb hby at_20) (fun _ _ => ⟨rfl, rfl, (by decide : 3 + 0 ≤ _), (by decide : 35 + 0 ≤ _)⟩)
  dsimp only [Pt.U, Pt.locs, Pt.cells, Pt.slots] at X473 l473 y473 z473 st473 hQ473
  subst l473 y473 z473
  obtain ⟨rfl, Nq473, Kq473, U473_0, U473_1, U473_2, U473_3, U473_4⟩ := hQ473
  have Q474 : Exa Z T473.heap b468 "com/example/axiomwright/axiomwright/Arcs" := Q472.keep Kq473
  have U473_0n : Fld Z T473.heap b468 "com/example/axiomwright/axiomwright/Arcs" "size" "I" (.int (2 : Int32)) := U473_0
  have U473_3n : Arv Z T473.heap b1_469 k1_469 .int (16 : Int32) [(.int p1), (.int p3), (.int (0 : Int32)), (.int (0 : Int32)), (.int (0 : Int32)), (.int (0 : Int32)), (.int (0 : Int32)), (.int (0 : Int32)), (.int (0 : Int32)), (.int (0 : Int32)), (.int (0 : Int32)), (.int (0 : Int32)), (.int (0 : Int32)), (.int (0 : Int32)), (.int (0 : Int32)), (.int (0 : Int32))] (.int (0 : Int32)) := U473_3
  have U473_4n : Arv Z T473.heap b2_469 k2_469 .int (16 : Int32) [(.int p2), (.int p4), (.int (0 : Int32)), (.int (0 : Int32)), (.int (0 : Int32)), (.int (0 : Int32)), (.int (0 : Int32)), (.int (0 : Int32)), (.int (0 : Int32)), (.int (0 : Int32)), (.int (0 : Int32)), (.int (0 : Int32)), (.int (0 : Int32)), (.int (0 : Int32)), (.int (0 : Int32)), (.int (0 : Int32))] (.int (0 : Int32)) := U473_4
  have Z473 : n0 ≤ T473.heap.size := Nat.le_trans Z471 Kq473.1
  have K473 : Keep h0 T473.heap [] := K471.trans Kq473 (allS (Or.inr sz468) (allS (Or.inr sz_b1_469) (allS (Or.inr sz_b2_469) all0)))
  have N473 := Fr.app N471 Nq473
  refine own_go (A := _) (B := T473.setTop (mkF m 23 #[.val (.int p1), .val (.int p2), .val (.int p3), .val (.int p4), .val (.int p5), .val (.int p6), .val (.ref b468), .unset, .unset, .unset, .unset, .unset, .unset] [])) (fun t k => st473.trans k) ?_
  obtain ⟨T475, h475, X475, e475, E475, A475, D475, -, st475⟩ := newO X473 hx hZ hown (hw _ (List.mem_of_getElem? (i := 0) rfl)) (hw _ (List.mem_of_getElem? (i := 1) rfl)) (hw _ (List.mem_of_getElem? (i := 2) rfl)) rfl (g := (mkF m 23 #[.val (.int p1), .val (.int p2), .val (.int p3), .val (.int p4), .val (.int p5), .val (.int p6), .val (.ref b468), .unset, .unset, .unset, .unset, .unset, .unset] [])) rfl (hb hby at_23) (by decide) (by decide)
  obtain ⟨b475, g475⟩ : ∃ z, z = T473.heap.size := ⟨_, rfl⟩
  rw [← g475] at A475 D475 st475
  have ne475_b1_469 : b1_469 ≠ b475 := Nat.ne_of_lt (Nat.lt_of_lt_of_le U473_3n.lt (Nat.le_of_eq g475.symm))
  have ne475_b2_469 : b2_469 ≠ b475 := Nat.ne_of_lt (Nat.lt_of_lt_of_le U473_4n.lt (Nat.le_of_eq g475.symm))
  have ne475_b468 : b468 ≠ b475 := Nat.ne_of_lt (Nat.lt_of_lt_of_le Q474.lt (Nat.le_of_eq g475.symm))
  have low475 : n0 ≤ b475 := Nat.le_trans Z473 (Nat.le_of_eq g475.symm)
  have sz475 : h0.size ≤ b475 := Nat.le_trans K473.1 (Nat.le_of_eq g475.symm)
  have Q476 : Exa Z h475 b468 "com/example/axiomwright/axiomwright/Arcs" := Q474.ext E475
  have Q477 : Fld Z h475 b468 "com/example/axiomwright/axiomwright/Arcs" "size" "I" (.int (2 : Int32)) := U473_0n.ext E475
  have Q478 : Fld Z h475 b468 "com/example/axiomwright/axiomwright/Arcs" "from" "[I" (.ref b1_469) := U473_1.ext E475
  have Q479 : Fld Z h475 b468 "com/example/axiomwright/axiomwright/Arcs" "to" "[I" (.ref b2_469) := U473_2.ext E475
  have Q480 : Arv Z h475 b1_469 k1_469 .int (16 : Int32) [(.int p1), (.int p3), (.int (0 : Int32)), (.int (0 : Int32)), (.int (0 : Int32)), (.int (0 : Int32)), (.int (0 : Int32)), (.int (0 : Int32)), (.int (0 : Int32)), (.int (0 : Int32)), (.int (0 : Int32)), (.int (0 : Int32)), (.int (0 : Int32)), (.int (0 : Int32)), (.int (0 : Int32)), (.int (0 : Int32))] (.int (0 : Int32)) := U473_3n.ext E475
  have Q481 : Arv Z h475 b2_469 k2_469 .int (16 : Int32) [(.int p2), (.int p4), (.int (0 : Int32)), (.int (0 : Int32)), (.int (0 : Int32)), (.int (0 : Int32)), (.int (0 : Int32)), (.int (0 : Int32)), (.int (0 : Int32)), (.int (0 : Int32)), (.int (0 : Int32)), (.int (0 : Int32)), (.int (0 : Int32)), (.int (0 : Int32)), (.int (0 : Int32)), (.int (0 : Int32))] (.int (0 : Int32)) := U473_4n.ext E475
  have Z475 : n0 ≤ h475.size := Nat.le_trans Z473 E475.1
  have K475 := K473.ext E475
  have D475_from_Arcs : Fld Z h475 b475 "com/example/axiomwright/axiomwright/Arcs" "from" "[I" .null := D475 (Or.inl (hw _ (List.mem_of_getElem? (i := 11) rfl))) (ty := (.array .int)) (by decide)
  have D475_to_Arcs : Fld Z h475 b475 "com/example/axiomwright/axiomwright/Arcs" "to" "[I" .null := D475 (Or.inl (hw _ (List.mem_of_getElem? (i := 13) rfl))) (ty := (.array .int)) (by decide)
  have D475_size_Arcs : Fld Z h475 b475 "com/example/axiomwright/axiomwright/Arcs" "size" "I" (.int (0 : Int32)) := D475 (Or.inl (hw _ (List.mem_of_getElem? (i := 20) rfl))) (ty := .int) (by decide)
  refine own_go st475 ?_
  refine own_go (A := T475.setTop (mkF m 26 #[.val (.int p1), .val (.int p2), .val (.int p3), .val (.int p4), .val (.int p5), .val (.int p6), .val (.ref b468), .unset, .unset, .unset, .unset, .unset, .unset] [(.ref b475)])) (B := T475.setTop (mkF m 27 #[.val (.int p1), .val (.int p2), .val (.int p3), .val (.int p4), .val (.int p5), .val (.int p6), .val (.ref b468), .unset, .unset, .unset, .unset, .unset, .unset] [(.ref b475), (.ref b475)])) (fun t k => ?_) ?_
  · show Steps p.tables e below (T475.setTop (mkF m 26 #[.val (.int p1), .val (.int p2), .val (.int p3), .val (.int p4), .val (.int p5), .val (.int p6), .val (.ref b468), .unset, .unset, .unset, .unset, .unset, .unset] [(.ref b475)])) _
    refine XS.dup X475.here hx rfl (hb hby at_26) rfl rfl ?_
    exact k
  obtain ⟨_, _, ⟨T482, L482, k482, n482⟩, -, X482, ⟨Lc482, hQ482, l482, y482, z482⟩, st482⟩ := X475.specialBack hx (y := (⟨"com/example/axiomwright/axiomwright/Arcs", "<init>", "()V"⟩ : MethodName)) rfl hown (mvT hZ (hw _ (List.mem_of_getElem? (i := 3) rfl))) (mvT hZ (hw _ (List.mem_of_getElem? (i := 4) rfl))) (mvT hZ (hw _ (List.mem_of_getElem? (i := 5) rfl))) (by decide) (backOf (W := 1) (rm1 l Z a0 hw [] b475 h475 n0 Z475 A475 D475_from_Arcs D475_to_Arcs D475_size_Arcs low475) hZ (hw _ (List.mem_of_getElem? (i := 5) rfl)) (hw _ (List.mem_of_getElem? (i := 2) rfl)) (by decide) (by decide)) (g := (mkF m 27 #[.val (.int p1), .val (.int p2), .val (.int p3), .val (.int p4), .val (.int p5), .val (.int p6), .val (.ref b468), .unset, .unset, .unset, .unset, .unset, .unset] [(.ref b475), (.ref b475)])) rfl (by rw [hml]; rfl) (Steps.refl _) (a := b475) (argsL := []) (rest := [(.ref b475)]) (lenOf pd_3 rfl) rfl (by show 2 * 0 + _ ≤ _; exact Nat.le_of_eq rfl) (hb hby at_27) (fun _ _ => ⟨rfl, e475, (by decide : 4 + 2 ≤ _), (by decide : 38 + 32 ≤ _)⟩)
  dsimp only [Pt.U, Pt.locs, Pt.cells, Pt.slots] at X482 l482 y482 z482 st482 hQ482
  subst l482 y482 z482
  obtain ⟨b1_482, b2_482, k1_482, k2_482, rfl, Nq482, Kq482, sq_b1_482, sq_b2_482, pq482_0, U482_0, U482_1, U482_2, U482_3, U482_4⟩ := hQ482
  have ne_b1_469_b1_482 : b1_469 ≠ b1_482 := Nat.ne_of_lt (Nat.lt_of_lt_of_le Q480.lt sq_b1_482)
  have ne_b2_469_b1_482 : b2_469 ≠ b1_482 := Nat.ne_of_lt (Nat.lt_of_lt_of_le Q481.lt sq_b1_482)
  have ne_b468_b1_482 : b468 ≠ b1_482 := Nat.ne_of_lt (Nat.lt_of_lt_of_le Q476.lt sq_b1_482)
  have ne_b475_b1_482 : b475 ≠ b1_482 := Nat.ne_of_lt (Nat.lt_of_lt_of_le A475.lt sq_b1_482)
  have low_b1_482 : n0 ≤ b1_482 := Nat.le_trans Z475 sq_b1_482
  have sz_b1_482 : h0.size ≤ b1_482 := Nat.le_trans K475.1 sq_b1_482
  have ne_b1_469_b2_482 : b1_469 ≠ b2_482 := Nat.ne_of_lt (Nat.lt_of_lt_of_le Q480.lt sq_b2_482)
  have ne_b2_469_b2_482 : b2_469 ≠ b2_482 := Nat.ne_of_lt (Nat.lt_of_lt_of_le Q481.lt sq_b2_482)
  have ne_b468_b2_482 : b468 ≠ b2_482 := Nat.ne_of_lt (Nat.lt_of_lt_of_le Q476.lt sq_b2_482)
  have ne_b475_b2_482 : b475 ≠ b2_482 := Nat.ne_of_lt (Nat.lt_of_lt_of_le A475.lt sq_b2_482)
  have low_b2_482 : n0 ≤ b2_482 := Nat.le_trans Z475 sq_b2_482
  have sz_b2_482 : h0.size ≤ b2_482 := Nat.le_trans K475.1 sq_b2_482
  have Q483 : Exa Z T482.heap b468 "com/example/axiomwright/axiomwright/Arcs" := Q476.keep Kq482
  have Q484 : Fld Z T482.heap b468 "com/example/axiomwright/axiomwright/Arcs" "size" "I" (.int (2 : Int32)) := Q477.keep Kq482 (ninS ne475_b468 nin0)
  have Q485 : Fld Z T482.heap b468 "com/example/axiomwright/axiomwright/Arcs" "from" "[I" (.ref b1_469) := Q478.keep Kq482 (ninS ne475_b468 nin0)
  have Q486 : Fld Z T482.heap b468 "com/example/axiomwright/axiomwright/Arcs" "to" "[I" (.ref b2_469) := Q479.keep Kq482 (ninS ne475_b468 nin0)
  have Q487 : Arv Z T482.heap b1_469 k1_469 .int (16 : Int32) [(.int p1), (.int p3), (.int (0 : Int32)), (.int (0 : Int32)), (.int (0 : Int32)), (.int (0 : Int32)), (.int (0 : Int32)), (.int (0 : Int32)), (.int (0 : Int32)), (.int (0 : Int32)), (.int (0 : Int32)), (.int (0 : Int32)), (.int (0 : Int32)), (.int (0 : Int32)), (.int (0 : Int32)), (.int (0 : Int32))] (.int (0 : Int32)) := Q480.keep Kq482 (ninS ne475_b1_469 nin0)
  have Q488 : Arv Z T482.heap b2_469 k2_469 .int (16 : Int32) [(.int p2), (.int p4), (.int (0 : Int32)), (.int (0 : Int32)), (.int (0 : Int32)), (.int (0 : Int32)), (.int (0 : Int32)), (.int (0 : Int32)), (.int (0 : Int32)), (.int (0 : Int32)), (.int (0 : Int32)), (.int (0 : Int32)), (.int (0 : Int32)), (.int (0 : Int32)), (.int (0 : Int32)), (.int (0 : Int32))] (.int (0 : Int32)) := Q481.keep Kq482 (ninS ne475_b2_469 nin0)
  have Q489 : Exa Z T482.heap b475 "com/example/axiomwright/axiomwright/Arcs" := A475.keep Kq482
  have Z482 : n0 ≤ T482.heap.size := Nat.le_trans Z475 Kq482.1
  have K482 : Keep h0 T482.heap [] := K475.trans Kq482 (allS (Or.inr sz475) all0)
  have N482 := Fr.app N473 Nq482
  refine own_go (A := _) (B := T482.setTop (mkF m 30 #[.val (.int p1), .val (.int p2), .val (.int p3), .val (.int p4), .val (.int p5), .val (.int p6), .val (.ref b468), .unset, .unset, .unset, .unset, .unset, .unset] [(.ref b475)])) (fun t k => st482.trans k) ?_
  refine own_go (A := T482.setTop (mkF m 30 #[.val (.int p1), .val (.int p2), .val (.int p3), .val (.int p4), .val (.int p5), .val (.int p6), .val (.ref b468), .unset, .unset, .unset, .unset, .unset, .unset] [(.ref b475)])) (B := T482.setTop (mkF m 36 #[.val (.int p1), .val (.int p2), .val (.int p3), .val (.int p4), .val (.int p5), .val (.int p6), .val (.ref b468), .val (.ref b475), .unset, .unset, .unset, .unset, .unset] [(.ref b468), (.ref b475)])) (fun t k => ?_) ?_
  · show Steps p.tables e below (T482.setTop (mkF m 30 #[.val (.int p1), .val (.int p2), .val (.int p3), .val (.int p4), .val (.int p5), .val (.int p6), .val (.ref b468), .unset, .unset, .unset, .unset, .unset, .unset] [(.ref b475)])) _
    refine XS.astore X482.here hx rfl (hb hby at_30) rfl rfl (l' := #[.val (.int p1), .val (.int p2), .val (.int p3), .val (.int p4), .val (.int p5), .val (.int p6), .val (.ref b468), .val (.ref b475), .unset, .unset, .unset, .unset, .unset]) rfl ?_
    show Steps p.tables e below (T482.setTop (mkF m 32 #[.val (.int p1), .val (.int p2), .val (.int p3), .val (.int p4), .val (.int p5), .val (.int p6), .val (.ref b468), .val (.ref b475), .unset, .unset, .unset, .unset, .unset] [])) _
    refine XS.aload X482.here hx rfl (hb hby at_32) rfl rfl ?_
    show Steps p.tables e below (T482.setTop (mkF m 34 #[.val (.int p1), .val (.int p2), .val (.int p3), .val (.int p4), .val (.int p5), .val (.int p6), .val (.ref b468), .val (.ref b475), .unset, .unset, .unset, .unset, .unset] [(.ref b475)])) _
    refine XS.aload X482.here hx rfl (hb hby at_34) rfl rfl ?_
    exact k
  obtain ⟨cq490, kq490, q490a, q490b, q490c⟩ := isOf hZ rfl Q489
  obtain ⟨_, _, ⟨T490, L490, k490, n490⟩, -, X490, ⟨Lc490, hQ490, l490, y490, z490⟩, st490⟩ := X482.virtualBack hx (y := (⟨"com/example/axiomwright/axiomwright/Arcs", "addAll", "(Lcom/example/axiomwright/axiomwright/Arcs;)V"⟩ : MethodName)) (z := (⟨"com/example/axiomwright/axiomwright/Arcs", "addAll", "(Lcom/example/axiomwright/axiomwright/Arcs;)V"⟩ : MethodName)) hown (mvT hZ (hw _ (List.mem_of_getElem? (i := 21) rfl))) (mvT hZ (hw _ (List.mem_of_getElem? (i := 22) rfl))) (notFace_of_selects (args := #[]) (mvT hZ (hw _ (List.mem_of_getElem? (i := 24) rfl)))) (mvT hZ (hw _ (List.mem_of_getElem? (i := 24) rfl))) (mvT hZ (hw _ (List.mem_of_getElem? (i := 23) rfl))) (by decide) (backOf (W := 0) (rm4_0_2 l Z a0 hw [] b475 b468 b1_482 b2_482 b1_469 b2_469 k1_482 k2_482 k1_469 k2_469 (0 : Int32) (0 : Int32) (0 : Int32) (0 : Int32) (0 : Int32) (0 : Int32) (0 : Int32) (0 : Int32) (0 : Int32) (0 : Int32) (0 : Int32) (0 : Int32) (0 : Int32) (0 : Int32) (0 : Int32) (0 : Int32) (0 : Int32) (0 : Int32) (0 : Int32) (0 : Int32) (0 : Int32) (0 : Int32) (0 : Int32) (0 : Int32) (0 : Int32) (0 : Int32) (0 : Int32) (0 : Int32) (0 : Int32) (0 : Int32) (0 : Int32) (0 : Int32) p1 p3 (0 : Int32) (0 : Int32) (0 : Int32) (0 : Int32) (0 : Int32) (0 : Int32) (0 : Int32) (0 : Int32) (0 : Int32) (0 : Int32) (0 : Int32) (0 : Int32) (0 : Int32) (0 : Int32) p2 p4 (0 : Int32) (0 : Int32) (0 : Int32) (0 : Int32) (0 : Int32) (0 : Int32) (0 : Int32) (0 : Int32) (0 : Int32) (0 : Int32) (0 : Int32) (0 : Int32) (0 : Int32) (0 : Int32) T482.heap n0 Z482 Q489 U482_2 U482_0 U482_1 U482_3 U482_4 Q484 Q485 Q486 Q487 Q488 low475 low_b1_482 low_b2_482 ne_b475_b1_482 ne_b475_b2_482 pq482_0 ne475_b468 ne_b468_b1_482 ne_b468_b2_482 ne475_b1_469 ne_b1_469_b1_482 ne_b1_469_b2_482 ne475_b2_469 ne_b2_469_b1_482 ne_b2_469_b2_482) hZ (hw _ (List.mem_of_getElem? (i := 25) rfl)) (hw _ (List.mem_of_getElem? (i := 2) rfl)) (by decide) (by decide)) q490a q490c (g := (mkF m 36 #[.val (.int p1), .val (.int p2), .val (.int p3), .val (.int p4), .val (.int p5), .val (.int p6), .val (.ref b468), .val (.ref b475), .unset, .unset, .unset, .unset, .unset] [(.ref b468), (.ref b475)])) rfl (by rw [hml]; rfl) (Steps.refl _) (argsL := [(.ref b468)]) (rest := []) (lenOf pd_4 rfl) rfl (by show 2 * 0 + _ ≤ _; exact Nat.le_of_eq rfl) (hb hby at_36) (fun _ _ => ⟨rfl, rfl, (by decide : 6 + 0 ≤ _), (by decide : 70 + 0 ≤ _)⟩)
  dsimp only [Pt.U, Pt.locs, Pt.cells, Pt.slots] at X490 l490 y490 z490 st490 hQ490
  subst l490 y490 z490
  obtain ⟨rfl, Nq490, Kq490, U490_0, U490_1, U490_2, U490_3, U490_4⟩ := hQ490
  have Q491 : Exa Z T490.heap b468 "com/example/axiomwright/axiomwright/Arcs" := Q483.keep Kq490
  have Q492 : Fld Z T490.heap b468 "com/example/axiomwright/axiomwright/Arcs" "size" "I" (.int (2 : Int32)) := Q484.keep Kq490 (ninS ne475_b468 (ninS ne_b468_b1_482 (ninS ne_b468_b2_482 nin0)))
  have Q493 : Fld Z T490.heap b468 "com/example/axiomwright/axiomwright/Arcs" "from" "[I" (.ref b1_469) := Q485.keep Kq490 (ninS ne475_b468 (ninS ne_b468_b1_482 (ninS ne_b468_b2_482 nin0)))
  have Q494 : Fld Z T490.heap b468 "com/example/axiomwright/axiomwright/Arcs" "to" "[I" (.ref b2_469) := Q486.keep Kq490 (ninS ne475_b468 (ninS ne_b468_b1_482 (ninS ne_b468_b2_482 nin0)))
  have Q495 : Arv Z T490.heap b1_469 k1_469 .int (16 : Int32) [(.int p1), (.int p3), (.int (0 : Int32)), (.int (0 : Int32)), (.int (0 : Int32)), (.int (0 : Int32)), (.int (0 : Int32)), (.int (0 : Int32)), (.int (0 : Int32)), (.int (0 : Int32)), (.int (0 : Int32)), (.int (0 : Int32)), (.int (0 : Int32)), (.int (0 : Int32)), (.int (0 : Int32)), (.int (0 : Int32))] (.int (0 : Int32)) := Q487.keep Kq490 (ninS ne475_b1_469 (ninS ne_b1_469_b1_482 (ninS ne_b1_469_b2_482 nin0)))
  have Q496 : Arv Z T490.heap b2_469 k2_469 .int (16 : Int32) [(.int p2), (.int p4), (.int (0 : Int32)), (.int (0 : Int32)), (.int (0 : Int32)), (.int (0 : Int32)), (.int (0 : Int32)), (.int (0 : Int32)), (.int (0 : Int32)), (.int (0 : Int32)), (.int (0 : Int32)), (.int (0 : Int32)), (.int (0 : Int32)), (.int (0 : Int32)), (.int (0 : Int32)), (.int (0 : Int32))] (.int (0 : Int32)) := Q488.keep Kq490 (ninS ne475_b2_469 (ninS ne_b2_469_b1_482 (ninS ne_b2_469_b2_482 nin0)))
  have Q497 : Exa Z T490.heap b475 "com/example/axiomwright/axiomwright/Arcs" := Q489.keep Kq490
  have Z490 : n0 ≤ T490.heap.size := Nat.le_trans Z482 Kq490.1
  have K490 : Keep h0 T490.heap [] := K482.trans Kq490 (allS (Or.inr sz475) (allS (Or.inr sz_b1_482) (allS (Or.inr sz_b2_482) all0)))
  have N490 := Fr.app N482 Nq490
  refine own_go (A := _) (B := T490.setTop (mkF m 39 #[.val (.int p1), .val (.int p2), .val (.int p3), .val (.int p4), .val (.int p5), .val (.int p6), .val (.ref b468), .val (.ref b475), .unset, .unset, .unset, .unset, .unset] [])) (fun t k => st490.trans k) ?_
  refine own_go (A := T490.setTop (mkF m 39 #[.val (.int p1), .val (.int p2), .val (.int p3), .val (.int p4), .val (.int p5), .val (.int p6), .val (.ref b468), .val (.ref b475), .unset, .unset, .unset, .unset, .unset] [])) (B := T490.setTop (mkF m 43 #[.val (.int p1), .val (.int p2), .val (.int p3), .val (.int p4), .val (.int p5), .val (.int p6), .val (.ref b468), .val (.ref b475), .unset, .unset, .unset, .unset, .unset] [(.ref b468), (.ref b475)])) (fun t k => ?_) ?_
  · show Steps p.tables e below (T490.setTop (mkF m 39 #[.val (.int p1), .val (.int p2), .val (.int p3), .val (.int p4), .val (.int p5), .val (.int p6), .val (.ref b468), .val (.ref b475), .unset, .unset, .unset, .unset, .unset] [])) _
    refine XS.aload X490.here hx rfl (hb hby at_39) rfl rfl ?_
    show Steps p.tables e below (T490.setTop (mkF m 41 #[.val (.int p1), .val (.int p2), .val (.int p3), .val (.int p4), .val (.int p5), .val (.int p6), .val (.ref b468), .val (.ref b475), .unset, .unset, .unset, .unset, .unset] [(.ref b475)])) _
    refine XS.aload X490.here hx rfl (hb hby at_41) rfl rfl ?_
    exact k
  obtain ⟨cq498, kq498, q498a, q498b, q498c⟩ := isOf hZ rfl Q497
  obtain ⟨_, _, ⟨T498, L498, k498, n498⟩, -, X498, ⟨Lc498, hQ498, l498, y498, z498⟩, st498⟩ := X490.virtualBack hx (y := (⟨"com/example/axiomwright/axiomwright/Arcs", "addAll", "(Lcom/example/axiomwright/axiomwright/Arcs;)V"⟩ : MethodName)) (z := (⟨"com/example/axiomwright/axiomwright/Arcs", "addAll", "(Lcom/example/axiomwright/axiomwright/Arcs;)V"⟩ : MethodName)) hown (mvT hZ (hw _ (List.mem_of_getElem? (i := 21) rfl))) (mvT hZ (hw _ (List.mem_of_getElem? (i := 22) rfl))) (notFace_of_selects (args := #[]) (mvT hZ (hw _ (List.mem_of_getElem? (i := 24) rfl)))) (mvT hZ (hw _ (List.mem_of_getElem? (i := 24) rfl))) (mvT hZ (hw _ (List.mem_of_getElem? (i := 23) rfl))) (by decide) (backOf (W := 0) (rm4_2_2 l Z a0 hw [] b475 b468 b1_482 b2_482 b1_469 b2_469 k1_482 k2_482 k1_469 k2_469 p1 p3 (0 : Int32) (0 : Int32) (0 : Int32) (0 : Int32) (0 : Int32) (0 : Int32) (0 : Int32) (0 : Int32) (0 : Int32) (0 : Int32) (0 : Int32) (0 : Int32) (0 : Int32) (0 : Int32) p2 p4 (0 : Int32) (0 : Int32) (0 : Int32) (0 : Int32) (0 : Int32) (0 : Int32) (0 : Int32) (0 : Int32) (0 : Int32) (0 : Int32) (0 : Int32) (0 : Int32) (0 : Int32) (0 : Int32) p1 p3 (0 : Int32) (0 : Int32) (0 : Int32) (0 : Int32) (0 : Int32) (0 : Int32) (0 : Int32) (0 : Int32) (0 : Int32) (0 : Int32) (0 : Int32) (0 : Int32) (0 : Int32) (0 : Int32) p2 p4 (0 : Int32) (0 : Int32) (0 : Int32) (0 : Int32) (0 : Int32) (0 : Int32) (0 : Int32) (0 : Int32) (0 : Int32) (0 : Int32) (0 : Int32) (0 : Int32) (0 : Int32) (0 : Int32) T490.heap n0 Z490 Q497 U490_0 U490_1 U490_2 U490_3 U490_4 Q492 Q493 Q494 Q495 Q496 low475 low_b1_482 low_b2_482 ne_b475_b1_482 ne_b475_b2_482 pq482_0 ne475_b468 ne_b468_b1_482 ne_b468_b2_482 ne475_b1_469 ne_b1_469_b1_482 ne_b1_469_b2_482 ne475_b2_469 ne_b2_469_b1_482 ne_b2_469_b2_482) hZ (hw _ (List.mem_of_getElem? (i := 25) rfl)) (hw _ (List.mem_of_getElem? (i := 2) rfl)) (by decide) (by decide)) q498a q498c (g := (mkF m 43 #[.val (.int p1), .val (.int p2), .val (.int p3), .val (.int p4), .val (.int p5), .val (.int p6), .val (.ref b468), .val (.ref b475), .unset, .unset, .unset, .unset, .unset] [(.ref b468), (.ref b475)])) rfl (by rw [hml]; rfl) (Steps.refl _) (argsL := [(.ref b468)]) (rest := []) (lenOf pd_4 rfl) rfl (by show 2 * 0 + _ ≤ _; exact Nat.le_of_eq rfl) (hb hby at_43) (fun _ _ => ⟨rfl, rfl, (by decide : 6 + 0 ≤ _), (by decide : 70 + 0 ≤ _)⟩)
  dsimp only [Pt.U, Pt.locs, Pt.cells, Pt.slots] at X498 l498 y498 z498 st498 hQ498
  subst l498 y498 z498
  obtain ⟨rfl, Nq498, Kq498, U498_0, U498_1, U498_2, U498_3, U498_4⟩ := hQ498
  have Q499 : Exa Z T498.heap b468 "com/example/axiomwright/axiomwright/Arcs" := Q491.keep Kq498
  have Q500 : Fld Z T498.heap b468 "com/example/axiomwright/axiomwright/Arcs" "size" "I" (.int (2 : Int32)) := Q492.keep Kq498 (ninS ne475_b468 (ninS ne_b468_b1_482 (ninS ne_b468_b2_482 nin0)))
  have Q501 : Fld Z T498.heap b468 "com/example/axiomwright/axiomwright/Arcs" "from" "[I" (.ref b1_469) := Q493.keep Kq498 (ninS ne475_b468 (ninS ne_b468_b1_482 (ninS ne_b468_b2_482 nin0)))
  have Q502 : Fld Z T498.heap b468 "com/example/axiomwright/axiomwright/Arcs" "to" "[I" (.ref b2_469) := Q494.keep Kq498 (ninS ne475_b468 (ninS ne_b468_b1_482 (ninS ne_b468_b2_482 nin0)))
  have Q503 : Arv Z T498.heap b1_469 k1_469 .int (16 : Int32) [(.int p1), (.int p3), (.int (0 : Int32)), (.int (0 : Int32)), (.int (0 : Int32)), (.int (0 : Int32)), (.int (0 : Int32)), (.int (0 : Int32)), (.int (0 : Int32)), (.int (0 : Int32)), (.int (0 : Int32)), (.int (0 : Int32)), (.int (0 : Int32)), (.int (0 : Int32)), (.int (0 : Int32)), (.int (0 : Int32))] (.int (0 : Int32)) := Q495.keep Kq498 (ninS ne475_b1_469 (ninS ne_b1_469_b1_482 (ninS ne_b1_469_b2_482 nin0)))
  have Q504 : Arv Z T498.heap b2_469 k2_469 .int (16 : Int32) [(.int p2), (.int p4), (.int (0 : Int32)), (.int (0 : Int32)), (.int (0 : Int32)), (.int (0 : Int32)), (.int (0 : Int32)), (.int (0 : Int32)), (.int (0 : Int32)), (.int (0 : Int32)), (.int (0 : Int32)), (.int (0 : Int32)), (.int (0 : Int32)), (.int (0 : Int32)), (.int (0 : Int32)), (.int (0 : Int32))] (.int (0 : Int32)) := Q496.keep Kq498 (ninS ne475_b2_469 (ninS ne_b2_469_b1_482 (ninS ne_b2_469_b2_482 nin0)))
  have Q505 : Exa Z T498.heap b475 "com/example/axiomwright/axiomwright/Arcs" := Q497.keep Kq498
  have Z498 : n0 ≤ T498.heap.size := Nat.le_trans Z490 Kq498.1
  have K498 : Keep h0 T498.heap [] := K490.trans Kq498 (allS (Or.inr sz475) (allS (Or.inr sz_b1_482) (allS (Or.inr sz_b2_482) all0)))
  have N498 := Fr.app N490 Nq498
  refine own_go (A := _) (B := T498.setTop (mkF m 46 #[.val (.int p1), .val (.int p2), .val (.int p3), .val (.int p4), .val (.int p5), .val (.int p6), .val (.ref b468), .val (.ref b475), .unset, .unset, .unset, .unset, .unset] [])) (fun t k => st498.trans k) ?_
  refine own_go (A := T498.setTop (mkF m 46 #[.val (.int p1), .val (.int p2), .val (.int p3), .val (.int p4), .val (.int p5), .val (.int p6), .val (.ref b468), .val (.ref b475), .unset, .unset, .unset, .unset, .unset] [])) (B := T498.setTop (mkF m 50 #[.val (.int p1), .val (.int p2), .val (.int p3), .val (.int p4), .val (.int p5), .val (.int p6), .val (.ref b468), .val (.ref b475), .unset, .unset, .unset, .unset, .unset] [(.ref b475), (.ref b468)])) (fun t k => ?_) ?_
  · show Steps p.tables e below (T498.setTop (mkF m 46 #[.val (.int p1), .val (.int p2), .val (.int p3), .val (.int p4), .val (.int p5), .val (.int p6), .val (.ref b468), .val (.ref b475), .unset, .unset, .unset, .unset, .unset] [])) _
    refine XS.aload X498.here hx rfl (hb hby at_46) rfl rfl ?_
    show Steps p.tables e below (T498.setTop (mkF m 48 #[.val (.int p1), .val (.int p2), .val (.int p3), .val (.int p4), .val (.int p5), .val (.int p6), .val (.ref b468), .val (.ref b475), .unset, .unset, .unset, .unset, .unset] [(.ref b468)])) _
    refine XS.aload X498.here hx rfl (hb hby at_48) rfl rfl ?_
    exact k
  obtain ⟨cq506, kq506, q506a, q506b, q506c⟩ := isOf hZ rfl Q499
  obtain ⟨_, _, ⟨T506, L506, k506, n506⟩, -, X506, ⟨Lc506, hQ506, l506, y506, z506⟩, st506⟩ := X498.virtualBack hx (y := (⟨"com/example/axiomwright/axiomwright/Arcs", "addAll", "(Lcom/example/axiomwright/axiomwright/Arcs;)V"⟩ : MethodName)) (z := (⟨"com/example/axiomwright/axiomwright/Arcs", "addAll", "(Lcom/example/axiomwright/axiomwright/Arcs;)V"⟩ : MethodName)) hown (mvT hZ (hw _ (List.mem_of_getElem? (i := 21) rfl))) (mvT hZ (hw _ (List.mem_of_getElem? (i := 22) rfl))) (notFace_of_selects (args := #[]) (mvT hZ (hw _ (List.mem_of_getElem? (i := 24) rfl)))) (mvT hZ (hw _ (List.mem_of_getElem? (i := 24) rfl))) (mvT hZ (hw _ (List.mem_of_getElem? (i := 23) rfl))) (by decide) (backOf (W := 0) (rm4_2_4 l Z a0 hw [] b468 b475 b1_469 b2_469 b1_482 b2_482 k1_469 k2_469 k1_482 k2_482 p1 p3 (0 : Int32) (0 : Int32) (0 : Int32) (0 : Int32) (0 : Int32) (0 : Int32) (0 : Int32) (0 : Int32) (0 : Int32) (0 : Int32) (0 : Int32) (0 : Int32) (0 : Int32) (0 : Int32) p2 p4 (0 : Int32) (0 : Int32) (0 : Int32) (0 : Int32) (0 : Int32) (0 : Int32) (0 : Int32) (0 : Int32) (0 : Int32) (0 : Int32) (0 : Int32) (0 : Int32) (0 : Int32) (0 : Int32) p1 p3 p1 p3 (0 : Int32) (0 : Int32) (0 : Int32) (0 : Int32) (0 : Int32) (0 : Int32) (0 : Int32) (0 : Int32) (0 : Int32) (0 : Int32) (0 : Int32) (0 : Int32) p2 p4 p2 p4 (0 : Int32) (0 : Int32) (0 : Int32) (0 : Int32) (0 : Int32) (0 : Int32) (0 : Int32) (0 : Int32) (0 : Int32) (0 : Int32) (0 : Int32) (0 : Int32) T498.heap n0 Z498 Q499 Q500 Q501 Q502 Q503 Q504 U498_0 U498_1 U498_2 U498_3 U498_4 low468 low_b1_469 low_b2_469 ne_b468_b1_469 ne_b468_b2_469 pq469_0 (Ne.symm ne475_b468) (Ne.symm ne475_b1_469) (Ne.symm ne475_b2_469) (Ne.symm ne_b468_b1_482) (Ne.symm ne_b1_469_b1_482) (Ne.symm ne_b2_469_b1_482) (Ne.symm ne_b468_b2_482) (Ne.symm ne_b1_469_b2_482) (Ne.symm ne_b2_469_b2_482)) hZ (hw _ (List.mem_of_getElem? (i := 25) rfl)) (hw _ (List.mem_of_getElem? (i := 2) rfl)) (by decide) (by decide)) q506a q506c (g := (mkF m 50 #[.val (.int p1), .val (.int p2), .val (.int p3), .val (.int p4), .val (.int p5), .val (.int p6), .val (.ref b468), .val (.ref b475), .unset, .unset, .unset, .unset, .unset] [(.ref b475), (.ref b468)])) rfl (by rw [hml]; rfl) (Steps.refl _) (argsL := [(.ref b475)]) (rest := []) (lenOf pd_4 rfl) rfl (by show 2 * 0 + _ ≤ _; exact Nat.le_of_eq rfl) (hb hby at_50) (fun _ _ => ⟨rfl, rfl, (by decide : 6 + 0 ≤ _), (by decide : 70 + 0 ≤ _)⟩)
  dsimp only [Pt.U, Pt.locs, Pt.cells, Pt.slots] at X506 l506 y506 z506 st506 hQ506
  subst l506 y506 z506
  obtain ⟨rfl, Nq506, Kq506, U506_0, U506_1, U506_2, U506_3, U506_4⟩ := hQ506
  have Q507 : Exa Z T506.heap b468 "com/example/axiomwright/axiomwright/Arcs" := Q499.keep Kq506
  have Q508 : Exa Z T506.heap b475 "com/example/axiomwright/axiomwright/Arcs" := Q505.keep Kq506
  have Q509 : Fld Z T506.heap b475 "com/example/axiomwright/axiomwright/Arcs" "size" "I" (.int (4 : Int32)) := U498_0.keep Kq506 (ninS (Ne.symm ne475_b468) (ninS (Ne.symm ne475_b1_469) (ninS (Ne.symm ne475_b2_469) nin0)))
  have Q510 : Fld Z T506.heap b475 "com/example/axiomwright/axiomwright/Arcs" "from" "[I" (.ref b1_482) := U498_1.keep Kq506 (ninS (Ne.symm ne475_b468) (ninS (Ne.symm ne475_b1_469) (ninS (Ne.symm ne475_b2_469) nin0)))
  have Q511 : Fld Z T506.heap b475 "com/example/axiomwright/axiomwright/Arcs" "to" "[I" (.ref b2_482) := U498_2.keep Kq506 (ninS (Ne.symm ne475_b468) (ninS (Ne.symm ne475_b1_469) (ninS (Ne.symm ne475_b2_469) nin0)))
  have Q512 : Arv Z T506.heap b1_482 k1_482 .int (16 : Int32) [(.int p1), (.int p3), (.int p1), (.int p3), (.int (0 : Int32)), (.int (0 : Int32)), (.int (0 : Int32)), (.int (0 : Int32)), (.int (0 : Int32)), (.int (0 : Int32)), (.int (0 : Int32)), (.int (0 : Int32)), (.int (0 : Int32)), (.int (0 : Int32)), (.int (0 : Int32)), (.int (0 : Int32))] (.int (0 : Int32)) := U498_3.keep Kq506 (ninS (Ne.symm ne_b468_b1_482) (ninS (Ne.symm ne_b1_469_b1_482) (ninS (Ne.symm ne_b2_469_b1_482) nin0)))
  have Q513 : Arv Z T506.heap b2_482 k2_482 .int (16 : Int32) [(.int p2), (.int p4), (.int p2), (.int p4), (.int (0 : Int32)), (.int (0 : Int32)), (.int (0 : Int32)), (.int (0 : Int32)), (.int (0 : Int32)), (.int (0 : Int32)), (.int (0 : Int32)), (.int (0 : Int32)), (.int (0 : Int32)), (.int (0 : Int32)), (.int (0 : Int32)), (.int (0 : Int32))] (.int (0 : Int32)) := U498_4.keep Kq506 (ninS (Ne.symm ne_b468_b2_482) (ninS (Ne.symm ne_b1_469_b2_482) (ninS (Ne.symm ne_b2_469_b2_482) nin0)))
  have Z506 : n0 ≤ T506.heap.size := Nat.le_trans Z498 Kq506.1
  have K506 : Keep h0 T506.heap [] := K498.trans Kq506 (allS (Or.inr sz468) (allS (Or.inr sz_b1_469) (allS (Or.inr sz_b2_469) all0)))
  have N506 := Fr.app N498 Nq506
  refine own_go (A := _) (B := T506.setTop (mkF m 53 #[.val (.int p1), .val (.int p2), .val (.int p3), .val (.int p4), .val (.int p5), .val (.int p6), .val (.ref b468), .val (.ref b475), .unset, .unset, .unset, .unset, .unset] [])) (fun t k => st506.trans k) ?_
  refine own_go (A := T506.setTop (mkF m 53 #[.val (.int p1), .val (.int p2), .val (.int p3), .val (.int p4), .val (.int p5), .val (.int p6), .val (.ref b468), .val (.ref b475), .unset, .unset, .unset, .unset, .unset] [])) (B := T506.setTop (mkF m 57 #[.val (.int p1), .val (.int p2), .val (.int p3), .val (.int p4), .val (.int p5), .val (.int p6), .val (.ref b468), .val (.ref b475), .unset, .unset, .unset, .unset, .unset] [(.ref b468), (.ref b475)])) (fun t k => ?_) ?_
  · show Steps p.tables e below (T506.setTop (mkF m 53 #[.val (.int p1), .val (.int p2), .val (.int p3), .val (.int p4), .val (.int p5), .val (.int p6), .val (.ref b468), .val (.ref b475), .unset, .unset, .unset, .unset, .unset] [])) _
    refine XS.aload X506.here hx rfl (hb hby at_53) rfl rfl ?_
    show Steps p.tables e below (T506.setTop (mkF m 55 #[.val (.int p1), .val (.int p2), .val (.int p3), .val (.int p4), .val (.int p5), .val (.int p6), .val (.ref b468), .val (.ref b475), .unset, .unset, .unset, .unset, .unset] [(.ref b475)])) _
    refine XS.aload X506.here hx rfl (hb hby at_55) rfl rfl ?_
    exact k
  obtain ⟨cq514, kq514, q514a, q514b, q514c⟩ := isOf hZ rfl Q508
  obtain ⟨_, _, ⟨T514, L514, k514, n514⟩, -, X514, ⟨Lc514, hQ514, l514, y514, z514⟩, st514⟩ := X506.virtualBack hx (y := (⟨"com/example/axiomwright/axiomwright/Arcs", "addAll", "(Lcom/example/axiomwright/axiomwright/Arcs;)V"⟩ : MethodName)) (z := (⟨"com/example/axiomwright/axiomwright/Arcs", "addAll", "(Lcom/example/axiomwright/axiomwright/Arcs;)V"⟩ : MethodName)) hown (mvT hZ (hw _ (List.mem_of_getElem? (i := 21) rfl))) (mvT hZ (hw _ (List.mem_of_getElem? (i := 22) rfl))) (notFace_of_selects (args := #[]) (mvT hZ (hw _ (List.mem_of_getElem? (i := 24) rfl)))) (mvT hZ (hw _ (List.mem_of_getElem? (i := 24) rfl))) (mvT hZ (hw _ (List.mem_of_getElem? (i := 23) rfl))) (by decide) (backOf (W := 0) (rm4_4_6 l Z a0 hw [] b475 b468 b1_482 b2_482 b1_469 b2_469 k1_482 k2_482 k1_469 k2_469 p1 p3 p1 p3 (0 : Int32) (0 : Int32) (0 : Int32) (0 : Int32) (0 : Int32) (0 : Int32) (0 : Int32) (0 : Int32) (0 : Int32) (0 : Int32) (0 : Int32) (0 : Int32) p2 p4 p2 p4 (0 : Int32) (0 : Int32) (0 : Int32) (0 : Int32) (0 : Int32) (0 : Int32) (0 : Int32) (0 : Int32) (0 : Int32) (0 : Int32) (0 : Int32) (0 : Int32) p1 p3 p1 p3 p1 p3 (0 : Int32) (0 : Int32) (0 : Int32) (0 : Int32) (0 : Int32) (0 : Int32) (0 : Int32) (0 : Int32) (0 : Int32) (0 : Int32) p2 p4 p2 p4 p2 p4 (0 : Int32) (0 : Int32) (0 : Int32) (0 : Int32) (0 : Int32) (0 : Int32) (0 : Int32) (0 : Int32) (0 : Int32) (0 : Int32) T506.heap n0 Z506 Q508 Q509 Q510 Q511 Q512 Q513 U506_0 U506_1 U506_2 U506_3 U506_4 low475 low_b1_482 low_b2_482 ne_b475_b1_482 ne_b475_b2_482 pq482_0 ne475_b468 ne_b468_b1_482 ne_b468_b2_482 ne475_b1_469 ne_b1_469_b1_482 ne_b1_469_b2_482 ne475_b2_469 ne_b2_469_b1_482 ne_b2_469_b2_482) hZ (hw _ (List.mem_of_getElem? (i := 25) rfl)) (hw _ (List.mem_of_getElem? (i := 2) rfl)) (by decide) (by decide)) q514a q514c (g := (mkF m 57 #[.val (.int p1), .val (.int p2), .val (.int p3), .val (.int p4), .val (.int p5), .val (.int p6), .val (.ref b468), .val (.ref b475), .unset, .unset, .unset, .unset, .unset] [(.ref b468), (.ref b475)])) rfl (by rw [hml]; rfl) (Steps.refl _) (argsL := [(.ref b468)]) (rest := []) (lenOf pd_4 rfl) rfl (by show 2 * 0 + _ ≤ _; exact Nat.le_of_eq rfl) (hb hby at_57) (fun _ _ => ⟨rfl, rfl, (by decide : 6 + 0 ≤ _), (by decide : 70 + 0 ≤ _)⟩)
  dsimp only [Pt.U, Pt.locs, Pt.cells, Pt.slots] at X514 l514 y514 z514 st514 hQ514
  subst l514 y514 z514
  obtain ⟨rfl, Nq514, Kq514, U514_0, U514_1, U514_2, U514_3, U514_4⟩ := hQ514
  have Q515 : Exa Z T514.heap b468 "com/example/axiomwright/axiomwright/Arcs" := Q507.keep Kq514
  have Q516 : Exa Z T514.heap b475 "com/example/axiomwright/axiomwright/Arcs" := Q508.keep Kq514
  have Q517 : Fld Z T514.heap b468 "com/example/axiomwright/axiomwright/Arcs" "size" "I" (.int (6 : Int32)) := U506_0.keep Kq514 (ninS ne475_b468 (ninS ne_b468_b1_482 (ninS ne_b468_b2_482 nin0)))
  have Q518 : Fld Z T514.heap b468 "com/example/axiomwright/axiomwright/Arcs" "from" "[I" (.ref b1_469) := U506_1.keep Kq514 (ninS ne475_b468 (ninS ne_b468_b1_482 (ninS ne_b468_b2_482 nin0)))
  have Q519 : Fld Z T514.heap b468 "com/example/axiomwright/axiomwright/Arcs" "to" "[I" (.ref b2_469) := U506_2.keep Kq514 (ninS ne475_b468 (ninS ne_b468_b1_482 (ninS ne_b468_b2_482 nin0)))
  have Q520 : Arv Z T514.heap b1_469 k1_469 .int (16 : Int32) [(.int p1), (.int p3), (.int p1), (.int p3), (.int p1), (.int p3), (.int (0 : Int32)), (.int (0 : Int32)), (.int (0 : Int32)), (.int (0 : Int32)), (.int (0 : Int32)), (.int (0 : Int32)), (.int (0 : Int32)), (.int (0 : Int32)), (.int (0 : Int32)), (.int (0 : Int32))] (.int (0 : Int32)) := U506_3.keep Kq514 (ninS ne475_b1_469 (ninS ne_b1_469_b1_482 (ninS ne_b1_469_b2_482 nin0)))
  have Q521 : Arv Z T514.heap b2_469 k2_469 .int (16 : Int32) [(.int p2), (.int p4), (.int p2), (.int p4), (.int p2), (.int p4), (.int (0 : Int32)), (.int (0 : Int32)), (.int (0 : Int32)), (.int (0 : Int32)), (.int (0 : Int32)), (.int (0 : Int32)), (.int (0 : Int32)), (.int (0 : Int32)), (.int (0 : Int32)), (.int (0 : Int32))] (.int (0 : Int32)) := U506_4.keep Kq514 (ninS ne475_b2_469 (ninS ne_b2_469_b1_482 (ninS ne_b2_469_b2_482 nin0)))
  have Z514 : n0 ≤ T514.heap.size := Nat.le_trans Z506 Kq514.1
  have K514 : Keep h0 T514.heap [] := K506.trans Kq514 (allS (Or.inr sz475) (allS (Or.inr sz_b1_482) (allS (Or.inr sz_b2_482) all0)))
  have N514 := Fr.app N506 Nq514
  refine own_go (A := _) (B := T514.setTop (mkF m 60 #[.val (.int p1), .val (.int p2), .val (.int p3), .val (.int p4), .val (.int p5), .val (.int p6), .val (.ref b468), .val (.ref b475), .unset, .unset, .unset, .unset, .unset] [])) (fun t k => st514.trans k) ?_
  refine own_go (A := T514.setTop (mkF m 60 #[.val (.int p1), .val (.int p2), .val (.int p3), .val (.int p4), .val (.int p5), .val (.int p6), .val (.ref b468), .val (.ref b475), .unset, .unset, .unset, .unset, .unset] [])) (B := T514.setTop (mkF m 64 #[.val (.int p1), .val (.int p2), .val (.int p3), .val (.int p4), .val (.int p5), .val (.int p6), .val (.ref b468), .val (.ref b475), .unset, .unset, .unset, .unset, .unset] [(.ref b475), (.ref b468)])) (fun t k => ?_) ?_
  · show Steps p.tables e below (T514.setTop (mkF m 60 #[.val (.int p1), .val (.int p2), .val (.int p3), .val (.int p4), .val (.int p5), .val (.int p6), .val (.ref b468), .val (.ref b475), .unset, .unset, .unset, .unset, .unset] [])) _
    refine XS.aload X514.here hx rfl (hb hby at_60) rfl rfl ?_
    show Steps p.tables e below (T514.setTop (mkF m 62 #[.val (.int p1), .val (.int p2), .val (.int p3), .val (.int p4), .val (.int p5), .val (.int p6), .val (.ref b468), .val (.ref b475), .unset, .unset, .unset, .unset, .unset] [(.ref b468)])) _
    refine XS.aload X514.here hx rfl (hb hby at_62) rfl rfl ?_
    exact k
  obtain ⟨cq522, kq522, q522a, q522b, q522c⟩ := isOf hZ rfl Q515
  obtain ⟨_, _, ⟨T522, L522, k522, n522⟩, -, X522, ⟨Lc522, hQ522, l522, y522, z522⟩, st522⟩ := X514.virtualBack hx (y := (⟨"com/example/axiomwright/axiomwright/Arcs", "addAll", "(Lcom/example/axiomwright/axiomwright/Arcs;)V"⟩ : MethodName)) (z := (⟨"com/example/axiomwright/axiomwright/Arcs", "addAll", "(Lcom/example/axiomwright/axiomwright/Arcs;)V"⟩ : MethodName)) hown (mvT hZ (hw _ (List.mem_of_getElem? (i := 21) rfl))) (mvT hZ (hw _ (List.mem_of_getElem? (i := 22) rfl))) (notFace_of_selects (args := #[]) (mvT hZ (hw _ (List.mem_of_getElem? (i := 24) rfl)))) (mvT hZ (hw _ (List.mem_of_getElem? (i := 24) rfl))) (mvT hZ (hw _ (List.mem_of_getElem? (i := 23) rfl))) (by decide) (backOf (W := 0) (rm4_6_10 l Z a0 hw [] b468 b475 b1_469 b2_469 b1_482 b2_482 k1_469 k2_469 k1_482 k2_482 p1 p3 p1 p3 p1 p3 (0 : Int32) (0 : Int32) (0 : Int32) (0 : Int32) (0 : Int32) (0 : Int32) (0 : Int32) (0 : Int32) (0 : Int32) (0 : Int32) p2 p4 p2 p4 p2 p4 (0 : Int32) (0 : Int32) (0 : Int32) (0 : Int32) (0 : Int32) (0 : Int32) (0 : Int32) (0 : Int32) (0 : Int32) (0 : Int32) p1 p3 p1 p3 p1 p3 p1 p3 p1 p3 (0 : Int32) (0 : Int32) (0 : Int32) (0 : Int32) (0 : Int32) (0 : Int32) p2 p4 p2 p4 p2 p4 p2 p4 p2 p4 (0 : Int32) (0 : Int32) (0 : Int32) (0 : Int32) (0 : Int32) (0 : Int32) T514.heap n0 Z514 Q515 Q517 Q518 Q519 Q520 Q521 U514_0 U514_1 U514_2 U514_3 U514_4 low468 low_b1_469 low_b2_469 ne_b468_b1_469 ne_b468_b2_469 pq469_0 (Ne.symm ne475_b468) (Ne.symm ne475_b1_469) (Ne.symm ne475_b2_469) (Ne.symm ne_b468_b1_482) (Ne.symm ne_b1_469_b1_482) (Ne.symm ne_b2_469_b1_482) (Ne.symm ne_b468_b2_482) (Ne.symm ne_b1_469_b2_482) (Ne.symm ne_b2_469_b2_482)) hZ (hw _ (List.mem_of_getElem? (i := 25) rfl)) (hw _ (List.mem_of_getElem? (i := 2) rfl)) (by decide) (by decide)) q522a q522c (g := (mkF m 64 #[.val (.int p1), .val (.int p2), .val (.int p3), .val (.int p4), .val (.int p5), .val (.int p6), .val (.ref b468), .val (.ref b475), .unset, .unset, .unset, .unset, .unset] [(.ref b475), (.ref b468)])) rfl (by rw [hml]; rfl) (Steps.refl _) (argsL := [(.ref b475)]) (rest := []) (lenOf pd_4 rfl) rfl (by show 2 * 0 + _ ≤ _; exact Nat.le_of_eq rfl) (hb hby at_64) (fun _ _ => ⟨rfl, rfl, (by decide : 6 + 0 ≤ _), (by decide : 70 + 0 ≤ _)⟩)
  dsimp only [Pt.U, Pt.locs, Pt.cells, Pt.slots] at X522 l522 y522 z522 st522 hQ522
  subst l522 y522 z522
  obtain ⟨rfl, Nq522, Kq522, U522_0, U522_1, U522_2, U522_3, U522_4⟩ := hQ522
  have Q523 : Exa Z T522.heap b468 "com/example/axiomwright/axiomwright/Arcs" := Q515.keep Kq522
  have Q524 : Exa Z T522.heap b475 "com/example/axiomwright/axiomwright/Arcs" := Q516.keep Kq522
  have Q525 : Fld Z T522.heap b475 "com/example/axiomwright/axiomwright/Arcs" "size" "I" (.int (10 : Int32)) := U514_0.keep Kq522 (ninS (Ne.symm ne475_b468) (ninS (Ne.symm ne475_b1_469) (ninS (Ne.symm ne475_b2_469) nin0)))
  have Q526 : Fld Z T522.heap b475 "com/example/axiomwright/axiomwright/Arcs" "from" "[I" (.ref b1_482) := U514_1.keep Kq522 (ninS (Ne.symm ne475_b468) (ninS (Ne.symm ne475_b1_469) (ninS (Ne.symm ne475_b2_469) nin0)))
  have Q527 : Fld Z T522.heap b475 "com/example/axiomwright/axiomwright/Arcs" "to" "[I" (.ref b2_482) := U514_2.keep Kq522 (ninS (Ne.symm ne475_b468) (ninS (Ne.symm ne475_b1_469) (ninS (Ne.symm ne475_b2_469) nin0)))
  have Q528 : Arv Z T522.heap b1_482 k1_482 .int (16 : Int32) [(.int p1), (.int p3), (.int p1), (.int p3), (.int p1), (.int p3), (.int p1), (.int p3), (.int p1), (.int p3), (.int (0 : Int32)), (.int (0 : Int32)), (.int (0 : Int32)), (.int (0 : Int32)), (.int (0 : Int32)), (.int (0 : Int32))] (.int (0 : Int32)) := U514_3.keep Kq522 (ninS (Ne.symm ne_b468_b1_482) (ninS (Ne.symm ne_b1_469_b1_482) (ninS (Ne.symm ne_b2_469_b1_482) nin0)))
  have Q529 : Arv Z T522.heap b2_482 k2_482 .int (16 : Int32) [(.int p2), (.int p4), (.int p2), (.int p4), (.int p2), (.int p4), (.int p2), (.int p4), (.int p2), (.int p4), (.int (0 : Int32)), (.int (0 : Int32)), (.int (0 : Int32)), (.int (0 : Int32)), (.int (0 : Int32)), (.int (0 : Int32))] (.int (0 : Int32)) := U514_4.keep Kq522 (ninS (Ne.symm ne_b468_b2_482) (ninS (Ne.symm ne_b1_469_b2_482) (ninS (Ne.symm ne_b2_469_b2_482) nin0)))
  have Z522 : n0 ≤ T522.heap.size := Nat.le_trans Z514 Kq522.1
  have K522 : Keep h0 T522.heap [] := K514.trans Kq522 (allS (Or.inr sz468) (allS (Or.inr sz_b1_469) (allS (Or.inr sz_b2_469) all0)))
  have N522 := Fr.app N514 Nq522
  refine own_go (A := _) (B := T522.setTop (mkF m 67 #[.val (.int p1), .val (.int p2), .val (.int p3), .val (.int p4), .val (.int p5), .val (.int p6), .val (.ref b468), .val (.ref b475), .unset, .unset, .unset, .unset, .unset] [])) (fun t k => st522.trans k) ?_
  refine own_go (A := T522.setTop (mkF m 67 #[.val (.int p1), .val (.int p2), .val (.int p3), .val (.int p4), .val (.int p5), .val (.int p6), .val (.ref b468), .val (.ref b475), .unset, .unset, .unset, .unset, .unset] [])) (B := T522.setTop (mkF m 69 #[.val (.int p1), .val (.int p2), .val (.int p3), .val (.int p4), .val (.int p5), .val (.int p6), .val (.ref b468), .val (.ref b475), .unset, .unset, .unset, .unset, .unset] [(.ref b468)])) (fun t k => ?_) ?_
  · show Steps p.tables e below (T522.setTop (mkF m 67 #[.val (.int p1), .val (.int p2), .val (.int p3), .val (.int p4), .val (.int p5), .val (.int p6), .val (.ref b468), .val (.ref b475), .unset, .unset, .unset, .unset, .unset] [])) _
    refine XS.aload X522.here hx rfl (hb hby at_67) rfl rfl ?_
    exact k
  obtain ⟨cq530, kq530, q530a, q530b, q530c⟩ := isOf hZ rfl Q523
  obtain ⟨_, _, ⟨T530, L530, k530, n530⟩, -, X530, ⟨Lc530, hQ530, l530, y530, z530⟩, st530⟩ := X522.virtualBack hx (y := (⟨"com/example/axiomwright/axiomwright/Arcs", "size", "()I"⟩ : MethodName)) (z := (⟨"com/example/axiomwright/axiomwright/Arcs", "size", "()I"⟩ : MethodName)) hown (mvT hZ (hw _ (List.mem_of_getElem? (i := 27) rfl))) (mvT hZ (hw _ (List.mem_of_getElem? (i := 28) rfl))) (notFace_of_selects (args := #[]) (mvT hZ (hw _ (List.mem_of_getElem? (i := 30) rfl)))) (mvT hZ (hw _ (List.mem_of_getElem? (i := 30) rfl))) (mvT hZ (hw _ (List.mem_of_getElem? (i := 29) rfl))) (by decide) (backOf (W := 0) (rm5 l Z a0 hw [] b468 (16 : Int32) T522.heap n0 Z522 U522_0) hZ (hw _ (List.mem_of_getElem? (i := 31) rfl)) (hw _ (List.mem_of_getElem? (i := 2) rfl)) (by decide) (by decide)) q530a q530c (g := (mkF m 69 #[.val (.int p1), .val (.int p2), .val (.int p3), .val (.int p4), .val (.int p5), .val (.int p6), .val (.ref b468), .val (.ref b475), .unset, .unset, .unset, .unset, .unset] [(.ref b468)])) rfl (by rw [hml]; rfl) (Steps.refl _) (argsL := []) (rest := []) (lenOf pd_5 rfl) rfl (by show 2 * 0 + _ ≤ _; exact Nat.le_of_eq rfl) (hb hby at_69) (fun _ _ => ⟨rfl, rfl, (by decide : 6 + 0 ≤ _), (by decide : 70 + 0 ≤ _)⟩)
  dsimp only [Pt.U, Pt.locs, Pt.cells, Pt.slots] at X530 l530 y530 z530 st530 hQ530
  subst l530 y530 z530
  obtain ⟨rfl, Nq530, e530⟩ := hQ530
  have N530 := Fr.app N522 Nq530
  refine own_go (A := _) (B := T530.setTop (mkF m 72 #[.val (.int p1), .val (.int p2), .val (.int p3), .val (.int p4), .val (.int p5), .val (.int p6), .val (.ref b468), .val (.ref b475), .unset, .unset, .unset, .unset, .unset] [(.int (16 : Int32))])) (fun t k => st530.trans k) ?_
  refine own_go (A := T530.setTop (mkF m 72 #[.val (.int p1), .val (.int p2), .val (.int p3), .val (.int p4), .val (.int p5), .val (.int p6), .val (.ref b468), .val (.ref b475), .unset, .unset, .unset, .unset, .unset] [(.int (16 : Int32))])) (B := T530.setTop (mkF m 79 #[.val (.int p1), .val (.int p2), .val (.int p3), .val (.int p4), .val (.int p5), .val (.int p6), .val (.ref b468), .val (.ref b475), .unset, .unset, .unset, .unset, .unset] [(.ref b475)])) (fun t k => ?_) ?_
  · show Steps p.tables e below (T530.setTop (mkF m 72 #[.val (.int p1), .val (.int p2), .val (.int p3), .val (.int p4), .val (.int p5), .val (.int p6), .val (.ref b468), .val (.ref b475), .unset, .unset, .unset, .unset, .unset] [(.int (16 : Int32))])) _
    refine XS.bipush X530.here hx rfl (hb hby at_72) ?_
    show Steps p.tables e below (T530.setTop (mkF m 74 #[.val (.int p1), .val (.int p2), .val (.int p3), .val (.int p4), .val (.int p5), .val (.int p6), .val (.ref b468), .val (.ref b475), .unset, .unset, .unset, .unset, .unset] [(.int (16 : Int32)), (.int (16 : Int32))])) _
    refine XS.icmpNo X530.here hx rfl (hb hby at_74) rfl (teq (rfl : (16 : Int32) = (16 : Int32))).2 ?_
    show Steps p.tables e below (T530.setTop (mkF m 77 #[.val (.int p1), .val (.int p2), .val (.int p3), .val (.int p4), .val (.int p5), .val (.int p6), .val (.ref b468), .val (.ref b475), .unset, .unset, .unset, .unset, .unset] [])) _
    refine XS.aload X530.here hx rfl (hb hby at_77) rfl rfl ?_
    exact k
  obtain ⟨cq532, kq532, q532a, q532b, q532c⟩ := isOf hZ e530 Q524
  obtain ⟨_, _, ⟨T532, L532, k532, n532⟩, -, X532, ⟨Lc532, hQ532, l532, y532, z532⟩, st532⟩ := X530.virtualBack hx (y := (⟨"com/example/axiomwright/axiomwright/Arcs", "size", "()I"⟩ : MethodName)) (z := (⟨"com/example/axiomwright/axiomwright/Arcs", "size", "()I"⟩ : MethodName)) hown (mvT hZ (hw _ (List.mem_of_getElem? (i := 27) rfl))) (mvT hZ (hw _ (List.mem_of_getElem? (i := 28) rfl))) (notFace_of_selects (args := #[]) (mvT hZ (hw _ (List.mem_of_getElem? (i := 30) rfl)))) (mvT hZ (hw _ (List.mem_of_getElem? (i := 30) rfl))) (mvT hZ (hw _ (List.mem_of_getElem? (i := 29) rfl))) (by decide) (backOf (W := 0) (rm5 l Z a0 hw [] b475 (10 : Int32) T522.heap n0 Z522 Q525) hZ (hw _ (List.mem_of_getElem? (i := 31) rfl)) (hw _ (List.mem_of_getElem? (i := 2) rfl)) (by decide) (by decide)) q532a q532c (g := (mkF m 79 #[.val (.int p1), .val (.int p2), .val (.int p3), .val (.int p4), .val (.int p5), .val (.int p6), .val (.ref b468), .val (.ref b475), .unset, .unset, .unset, .unset, .unset] [(.ref b475)])) rfl (by rw [hml]; rfl) (Steps.refl _) (argsL := []) (rest := []) (lenOf pd_5 rfl) rfl (by show 2 * 0 + _ ≤ _; exact Nat.le_of_eq rfl) (hb hby at_79) (fun _ _ => ⟨rfl, e530, (by decide : 6 + 0 ≤ _), (by decide : 70 + 0 ≤ _)⟩)
  dsimp only [Pt.U, Pt.locs, Pt.cells, Pt.slots] at X532 l532 y532 z532 st532 hQ532
  subst l532 y532 z532
  obtain ⟨rfl, Nq532, e532⟩ := hQ532
  have N532 := Fr.app N530 Nq532
  refine own_go (A := _) (B := T532.setTop (mkF m 82 #[.val (.int p1), .val (.int p2), .val (.int p3), .val (.int p4), .val (.int p5), .val (.int p6), .val (.ref b468), .val (.ref b475), .unset, .unset, .unset, .unset, .unset] [(.int (10 : Int32))])) (fun t k => st532.trans k) ?_
  refine own_go (A := T532.setTop (mkF m 82 #[.val (.int p1), .val (.int p2), .val (.int p3), .val (.int p4), .val (.int p5), .val (.int p6), .val (.ref b468), .val (.ref b475), .unset, .unset, .unset, .unset, .unset] [(.int (10 : Int32))])) (B := T532.setTop (mkF m 100 #[.val (.int p1), .val (.int p2), .val (.int p3), .val (.int p4), .val (.int p5), .val (.int p6), .val (.ref b468), .val (.ref b475), .val (.int (1 : Int32)), .unset, .unset, .unset, .unset] [(.int p6), (.int p5), (.ref b468)])) (fun t k => ?_) ?_
  · show Steps p.tables e below (T532.setTop (mkF m 82 #[.val (.int p1), .val (.int p2), .val (.int p3), .val (.int p4), .val (.int p5), .val (.int p6), .val (.ref b468), .val (.ref b475), .unset, .unset, .unset, .unset, .unset] [(.int (10 : Int32))])) _
    refine XS.bipush X532.here hx rfl (hb hby at_82) ?_
    show Steps p.tables e below (T532.setTop (mkF m 84 #[.val (.int p1), .val (.int p2), .val (.int p3), .val (.int p4), .val (.int p5), .val (.int p6), .val (.ref b468), .val (.ref b475), .unset, .unset, .unset, .unset, .unset] [(.int (10 : Int32)), (.int (10 : Int32))])) _
    refine XS.icmpNo X532.here hx rfl (hb hby at_84) rfl (teq (rfl : (10 : Int32) = (10 : Int32))).2 ?_
    show Steps p.tables e below (T532.setTop (mkF m 87 #[.val (.int p1), .val (.int p2), .val (.int p3), .val (.int p4), .val (.int p5), .val (.int p6), .val (.ref b468), .val (.ref b475), .unset, .unset, .unset, .unset, .unset] [])) _
    refine XS.iconst X532.here hx rfl (hb hby at_87) ?_
    show Steps p.tables e below (T532.setTop (mkF m 88 #[.val (.int p1), .val (.int p2), .val (.int p3), .val (.int p4), .val (.int p5), .val (.int p6), .val (.ref b468), .val (.ref b475), .unset, .unset, .unset, .unset, .unset] [(.int (1 : Int32))])) _
    refine XS.goto X532.here hx rfl (pc0 := 88) (pc' := 92) rfl (hb hby at_88) (by decide) (by decide) ?_
    show Steps p.tables e below (T532.setTop (mkF m 92 #[.val (.int p1), .val (.int p2), .val (.int p3), .val (.int p4), .val (.int p5), .val (.int p6), .val (.ref b468), .val (.ref b475), .unset, .unset, .unset, .unset, .unset] [(.int (1 : Int32))])) _
    refine XS.istore X532.here hx rfl (hb hby at_92) rfl (l' := #[.val (.int p1), .val (.int p2), .val (.int p3), .val (.int p4), .val (.int p5), .val (.int p6), .val (.ref b468), .val (.ref b475), .val (.int (1 : Int32)), .unset, .unset, .unset, .unset]) rfl ?_
    show Steps p.tables e below (T532.setTop (mkF m 94 #[.val (.int p1), .val (.int p2), .val (.int p3), .val (.int p4), .val (.int p5), .val (.int p6), .val (.ref b468), .val (.ref b475), .val (.int (1 : Int32)), .unset, .unset, .unset, .unset] [])) _
    refine XS.aload X532.here hx rfl (hb hby at_94) rfl rfl ?_
    show Steps p.tables e below (T532.setTop (mkF m 96 #[.val (.int p1), .val (.int p2), .val (.int p3), .val (.int p4), .val (.int p5), .val (.int p6), .val (.ref b468), .val (.ref b475), .val (.int (1 : Int32)), .unset, .unset, .unset, .unset] [(.ref b468)])) _
    refine XS.iload X532.here hx rfl (hb hby at_96) rfl ?_
    show Steps p.tables e below (T532.setTop (mkF m 98 #[.val (.int p1), .val (.int p2), .val (.int p3), .val (.int p4), .val (.int p5), .val (.int p6), .val (.ref b468), .val (.ref b475), .val (.int (1 : Int32)), .unset, .unset, .unset, .unset] [(.int p5), (.ref b468)])) _
    refine XS.iload X532.here hx rfl (hb hby at_98) rfl ?_
    exact k
  obtain ⟨cq534, kq534, q534a, q534b, q534c⟩ := isOf hZ e532 Q523
  obtain ⟨_, _, ⟨T534, L534, k534, n534⟩, -, X534, ⟨Lc534, hQ534, l534, y534, z534⟩, st534⟩ := X532.virtualBack hx (y := (⟨"com/example/axiomwright/axiomwright/Arcs", "add", "(II)V"⟩ : MethodName)) (z := (⟨"com/example/axiomwright/axiomwright/Arcs", "add", "(II)V"⟩ : MethodName)) hown (mvT hZ (hw _ (List.mem_of_getElem? (i := 14) rfl))) (mvT hZ (hw _ (List.mem_of_getElem? (i := 15) rfl))) (notFace_of_selects (args := #[]) (mvT hZ (hw _ (List.mem_of_getElem? (i := 17) rfl)))) (mvT hZ (hw _ (List.mem_of_getElem? (i := 17) rfl))) (mvT hZ (hw _ (List.mem_of_getElem? (i := 16) rfl))) (by decide) (backOf (W := 0) (rm3g l Z a0 hw [] b468 p5 p6 b1_469 b2_469 k1_469 k2_469 p1 p3 p1 p3 p1 p3 p1 p3 p1 p3 p1 p3 p1 p3 p1 p3 p2 p4 p2 p4 p2 p4 p2 p4 p2 p4 p2 p4 p2 p4 p2 p4 T522.heap n0 Z522 Q523 U522_0 U522_1 U522_2 U522_3 U522_4 low468 (Ne.symm ne_b468_b1_469) (Ne.symm ne_b468_b2_469)) hZ (hw _ (List.mem_of_getElem? (i := 18) rfl)) (hw _ (List.mem_of_getElem? (i := 2) rfl)) (by decide) (by decide)) q534a q534c (g := (mkF m 100 #[.val (.int p1), .val (.int p2), .val (.int p3), .val (.int p4), .val (.int p5), .val (.int p6), .val (.ref b468), .val (.ref b475), .val (.int (1 : Int32)), .unset, .unset, .unset, .unset] [(.int p6), (.int p5), (.ref b468)])) rfl (by rw [hml]; rfl) (Steps.refl _) (argsL := [(.int p5), (.int p6)]) (rest := []) (lenOf pd_0 rfl) rfl (by show 2 * 0 + _ ≤ _; exact Nat.le_of_eq rfl) (hb hby at_100) (fun _ _ => ⟨rfl, e532, (by decide : 6 + 2 ≤ _), (by decide : 70 + 64 ≤ _)⟩)
  dsimp only [Pt.U, Pt.locs, Pt.cells, Pt.slots] at X534 l534 y534 z534 st534 hQ534
  subst l534 y534 z534
  obtain ⟨d1_534, d2_534, k3_534, k4_534, rfl, Nq534, Kq534, sq_d1_534, sq_d2_534, U534_0, U534_1, U534_2, U534_3, U534_4⟩ := hQ534
  have ne_b1_469_d1_534 : b1_469 ≠ d1_534 := Nat.ne_of_lt (Nat.lt_of_lt_of_le U522_3.lt sq_d1_534)
  have ne_b1_482_d1_534 : b1_482 ≠ d1_534 := Nat.ne_of_lt (Nat.lt_of_lt_of_le Q528.lt sq_d1_534)
  have ne_b2_469_d1_534 : b2_469 ≠ d1_534 := Nat.ne_of_lt (Nat.lt_of_lt_of_le U522_4.lt sq_d1_534)
  have ne_b2_482_d1_534 : b2_482 ≠ d1_534 := Nat.ne_of_lt (Nat.lt_of_lt_of_le Q529.lt sq_d1_534)
  have ne_b468_d1_534 : b468 ≠ d1_534 := Nat.ne_of_lt (Nat.lt_of_lt_of_le Q523.lt sq_d1_534)
  have ne_b475_d1_534 : b475 ≠ d1_534 := Nat.ne_of_lt (Nat.lt_of_lt_of_le Q524.lt sq_d1_534)
  have low_d1_534 : n0 ≤ d1_534 := Nat.le_trans Z522 sq_d1_534
  have sz_d1_534 : h0.size ≤ d1_534 := Nat.le_trans K522.1 sq_d1_534
  have ne_b1_469_d2_534 : b1_469 ≠ d2_534 := Nat.ne_of_lt (Nat.lt_of_lt_of_le U522_3.lt sq_d2_534)
  have ne_b1_482_d2_534 : b1_482 ≠ d2_534 := Nat.ne_of_lt (Nat.lt_of_lt_of_le Q528.lt sq_d2_534)
  have ne_b2_469_d2_534 : b2_469 ≠ d2_534 := Nat.ne_of_lt (Nat.lt_of_lt_of_le U522_4.lt sq_d2_534)
  have ne_b2_482_d2_534 : b2_482 ≠ d2_534 := Nat.ne_of_lt (Nat.lt_of_lt_of_le Q529.lt sq_d2_534)
  have ne_b468_d2_534 : b468 ≠ d2_534 := Nat.ne_of_lt (Nat.lt_of_lt_of_le Q523.lt sq_d2_534)
  have ne_b475_d2_534 : b475 ≠ d2_534 := Nat.ne_of_lt (Nat.lt_of_lt_of_le Q524.lt sq_d2_534)
  have low_d2_534 : n0 ≤ d2_534 := Nat.le_trans Z522 sq_d2_534
  have sz_d2_534 : h0.size ≤ d2_534 := Nat.le_trans K522.1 sq_d2_534
  have Q535 : Exa Z T534.heap b468 "com/example/axiomwright/axiomwright/Arcs" := Q523.keep Kq534
  have Q536 : Exa Z T534.heap b475 "com/example/axiomwright/axiomwright/Arcs" := Q524.keep Kq534
  have Q537 : Fld Z T534.heap b475 "com/example/axiomwright/axiomwright/Arcs" "size" "I" (.int (10 : Int32)) := Q525.keep Kq534 (ninS (Ne.symm ne475_b468) nin0)
  have Q538 : Fld Z T534.heap b475 "com/example/axiomwright/axiomwright/Arcs" "from" "[I" (.ref b1_482) := Q526.keep Kq534 (ninS (Ne.symm ne475_b468) nin0)
  have Q539 : Fld Z T534.heap b475 "com/example/axiomwright/axiomwright/Arcs" "to" "[I" (.ref b2_482) := Q527.keep Kq534 (ninS (Ne.symm ne475_b468) nin0)
  have Q540 : Arv Z T534.heap b1_482 k1_482 .int (16 : Int32) [(.int p1), (.int p3), (.int p1), (.int p3), (.int p1), (.int p3), (.int p1), (.int p3), (.int p1), (.int p3), (.int (0 : Int32)), (.int (0 : Int32)), (.int (0 : Int32)), (.int (0 : Int32)), (.int (0 : Int32)), (.int (0 : Int32))] (.int (0 : Int32)) := Q528.keep Kq534 (ninS (Ne.symm ne_b468_b1_482) nin0)
  have Q541 : Arv Z T534.heap b2_482 k2_482 .int (16 : Int32) [(.int p2), (.int p4), (.int p2), (.int p4), (.int p2), (.int p4), (.int p2), (.int p4), (.int p2), (.int p4), (.int (0 : Int32)), (.int (0 : Int32)), (.int (0 : Int32)), (.int (0 : Int32)), (.int (0 : Int32)), (.int (0 : Int32))] (.int (0 : Int32)) := Q529.keep Kq534 (ninS (Ne.symm ne_b468_b2_482) nin0)
  have Q542 : Arv Z T534.heap b1_469 k1_469 .int (16 : Int32) [(.int p1), (.int p3), (.int p1), (.int p3), (.int p1), (.int p3), (.int p1), (.int p3), (.int p1), (.int p3), (.int p1), (.int p3), (.int p1), (.int p3), (.int p1), (.int p3)] (.int (0 : Int32)) := U522_3.keep Kq534 (ninS (Ne.symm ne_b468_b1_469) nin0)
  have Q543 : Arv Z T534.heap b2_469 k2_469 .int (16 : Int32) [(.int p2), (.int p4), (.int p2), (.int p4), (.int p2), (.int p4), (.int p2), (.int p4), (.int p2), (.int p4), (.int p2), (.int p4), (.int p2), (.int p4), (.int p2), (.int p4)] (.int (0 : Int32)) := U522_4.keep Kq534 (ninS (Ne.symm ne_b468_b2_469) nin0)
  have Z534 : n0 ≤ T534.heap.size := Nat.le_trans Z522 Kq534.1
  have K534 : Keep h0 T534.heap [] := K522.trans Kq534 (allS (Or.inr sz468) all0)
  have N534 := Fr.app N532 Nq534
  refine own_go (A := _) (B := T534.setTop (mkF m 103 #[.val (.int p1), .val (.int p2), .val (.int p3), .val (.int p4), .val (.int p5), .val (.int p6), .val (.ref b468), .val (.ref b475), .val (.int (1 : Int32)), .unset, .unset, .unset, .unset] [])) (fun t k => st534.trans k) ?_
  refine own_go (A := T534.setTop (mkF m 103 #[.val (.int p1), .val (.int p2), .val (.int p3), .val (.int p4), .val (.int p5), .val (.int p6), .val (.ref b468), .val (.ref b475), .val (.int (1 : Int32)), .unset, .unset, .unset, .unset] [])) (B := T534.setTop (mkF m 105 #[.val (.int p1), .val (.int p2), .val (.int p3), .val (.int p4), .val (.int p5), .val (.int p6), .val (.ref b468), .val (.ref b475), .val (.int (1 : Int32)), .unset, .unset, .unset, .unset] [(.ref b468)])) (fun t k => ?_) ?_
  · show Steps p.tables e below (T534.setTop (mkF m 103 #[.val (.int p1), .val (.int p2), .val (.int p3), .val (.int p4), .val (.int p5), .val (.int p6), .val (.ref b468), .val (.ref b475), .val (.int (1 : Int32)), .unset, .unset, .unset, .unset] [])) _
    refine XS.aload X534.here hx rfl (hb hby at_103) rfl rfl ?_
    exact k
  obtain ⟨cq544, kq544, q544a, q544b, q544c⟩ := isOf hZ rfl Q535
  obtain ⟨_, _, ⟨T544, L544, k544, n544⟩, -, X544, ⟨Lc544, hQ544, l544, y544, z544⟩, st544⟩ := X534.virtualBack hx (y := (⟨"com/example/axiomwright/axiomwright/Arcs", "size", "()I"⟩ : MethodName)) (z := (⟨"com/example/axiomwright/axiomwright/Arcs", "size", "()I"⟩ : MethodName)) hown (mvT hZ (hw _ (List.mem_of_getElem? (i := 27) rfl))) (mvT hZ (hw _ (List.mem_of_getElem? (i := 28) rfl))) (notFace_of_selects (args := #[]) (mvT hZ (hw _ (List.mem_of_getElem? (i := 30) rfl)))) (mvT hZ (hw _ (List.mem_of_getElem? (i := 30) rfl))) (mvT hZ (hw _ (List.mem_of_getElem? (i := 29) rfl))) (by decide) (backOf (W := 0) (rm5 l Z a0 hw [] b468 (17 : Int32) T534.heap n0 Z534 U534_0) hZ (hw _ (List.mem_of_getElem? (i := 31) rfl)) (hw _ (List.mem_of_getElem? (i := 2) rfl)) (by decide) (by decide)) q544a q544c (g := (mkF m 105 #[.val (.int p1), .val (.int p2), .val (.int p3), .val (.int p4), .val (.int p5), .val (.int p6), .val (.ref b468), .val (.ref b475), .val (.int (1 : Int32)), .unset, .unset, .unset, .unset] [(.ref b468)])) rfl (by rw [hml]; rfl) (Steps.refl _) (argsL := []) (rest := []) (lenOf pd_5 rfl) rfl (by show 2 * 0 + _ ≤ _; exact Nat.le_of_eq rfl) (hb hby at_105) (fun _ _ => ⟨rfl, rfl, (by decide : 8 + 0 ≤ _), (by decide : 134 + 0 ≤ _)⟩)
  dsimp only [Pt.U, Pt.locs, Pt.cells, Pt.slots] at X544 l544 y544 z544 st544 hQ544
  subst l544 y544 z544
  obtain ⟨rfl, Nq544, e544⟩ := hQ544
  have N544 := Fr.app N534 Nq544
  refine own_go (A := _) (B := T544.setTop (mkF m 108 #[.val (.int p1), .val (.int p2), .val (.int p3), .val (.int p4), .val (.int p5), .val (.int p6), .val (.ref b468), .val (.ref b475), .val (.int (1 : Int32)), .unset, .unset, .unset, .unset] [(.int (17 : Int32))])) (fun t k => st544.trans k) ?_
  refine own_go (A := T544.setTop (mkF m 108 #[.val (.int p1), .val (.int p2), .val (.int p3), .val (.int p4), .val (.int p5), .val (.int p6), .val (.ref b468), .val (.ref b475), .val (.int (1 : Int32)), .unset, .unset, .unset, .unset] [(.int (17 : Int32))])) (B := T544.setTop (mkF m 123 #[.val (.int p1), .val (.int p2), .val (.int p3), .val (.int p4), .val (.int p5), .val (.int p6), .val (.ref b468), .val (.ref b475), .val (.int (1 : Int32)), .val (.int (1 : Int32)), .unset, .unset, .unset] [(.int (0 : Int32)), (.ref b468)])) (fun t k => ?_) ?_
  · show Steps p.tables e below (T544.setTop (mkF m 108 #[.val (.int p1), .val (.int p2), .val (.int p3), .val (.int p4), .val (.int p5), .val (.int p6), .val (.ref b468), .val (.ref b475), .val (.int (1 : Int32)), .unset, .unset, .unset, .unset] [(.int (17 : Int32))])) _
    refine XS.bipush X544.here hx rfl (hb hby at_108) ?_
    show Steps p.tables e below (T544.setTop (mkF m 110 #[.val (.int p1), .val (.int p2), .val (.int p3), .val (.int p4), .val (.int p5), .val (.int p6), .val (.ref b468), .val (.ref b475), .val (.int (1 : Int32)), .unset, .unset, .unset, .unset] [(.int (17 : Int32)), (.int (17 : Int32))])) _
    refine XS.icmpNo X544.here hx rfl (hb hby at_110) rfl (teq (rfl : (17 : Int32) = (17 : Int32))).2 ?_
    show Steps p.tables e below (T544.setTop (mkF m 113 #[.val (.int p1), .val (.int p2), .val (.int p3), .val (.int p4), .val (.int p5), .val (.int p6), .val (.ref b468), .val (.ref b475), .val (.int (1 : Int32)), .unset, .unset, .unset, .unset] [])) _
    refine XS.iconst X544.here hx rfl (hb hby at_113) ?_
    show Steps p.tables e below (T544.setTop (mkF m 114 #[.val (.int p1), .val (.int p2), .val (.int p3), .val (.int p4), .val (.int p5), .val (.int p6), .val (.ref b468), .val (.ref b475), .val (.int (1 : Int32)), .unset, .unset, .unset, .unset] [(.int (1 : Int32))])) _
    refine XS.goto X544.here hx rfl (pc0 := 114) (pc' := 118) rfl (hb hby at_114) (by decide) (by decide) ?_
    show Steps p.tables e below (T544.setTop (mkF m 118 #[.val (.int p1), .val (.int p2), .val (.int p3), .val (.int p4), .val (.int p5), .val (.int p6), .val (.ref b468), .val (.ref b475), .val (.int (1 : Int32)), .unset, .unset, .unset, .unset] [(.int (1 : Int32))])) _
    refine XS.istore X544.here hx rfl (hb hby at_118) rfl (l' := #[.val (.int p1), .val (.int p2), .val (.int p3), .val (.int p4), .val (.int p5), .val (.int p6), .val (.ref b468), .val (.ref b475), .val (.int (1 : Int32)), .val (.int (1 : Int32)), .unset, .unset, .unset]) rfl ?_
    show Steps p.tables e below (T544.setTop (mkF m 120 #[.val (.int p1), .val (.int p2), .val (.int p3), .val (.int p4), .val (.int p5), .val (.int p6), .val (.ref b468), .val (.ref b475), .val (.int (1 : Int32)), .val (.int (1 : Int32)), .unset, .unset, .unset] [])) _
    refine XS.aload X544.here hx rfl (hb hby at_120) rfl rfl ?_
    show Steps p.tables e below (T544.setTop (mkF m 122 #[.val (.int p1), .val (.int p2), .val (.int p3), .val (.int p4), .val (.int p5), .val (.int p6), .val (.ref b468), .val (.ref b475), .val (.int (1 : Int32)), .val (.int (1 : Int32)), .unset, .unset, .unset] [(.ref b468)])) _
    refine XS.iconst X544.here hx rfl (hb hby at_122) ?_
    exact k
  obtain ⟨cq546, kq546, q546a, q546b, q546c⟩ := isOf hZ e544 Q535
  obtain ⟨_, _, ⟨T546, L546, k546, n546⟩, -, X546, ⟨Lc546, hQ546, l546, y546, z546⟩, st546⟩ := X544.virtualBack hx (y := (⟨"com/example/axiomwright/axiomwright/Arcs", "tail", "(I)I"⟩ : MethodName)) (z := (⟨"com/example/axiomwright/axiomwright/Arcs", "tail", "(I)I"⟩ : MethodName)) hown (mvT hZ (hw _ (List.mem_of_getElem? (i := 44) rfl))) (mvT hZ (hw _ (List.mem_of_getElem? (i := 45) rfl))) (notFace_of_selects (args := #[]) (mvT hZ (hw _ (List.mem_of_getElem? (i := 47) rfl)))) (mvT hZ (hw _ (List.mem_of_getElem? (i := 47) rfl))) (mvT hZ (hw _ (List.mem_of_getElem? (i := 46) rfl))) (by decide) (backOf (W := 0) (rm8_0_32 l Z a0 hw [] b468 d1_534 k3_534 p1 p3 p1 p3 p1 p3 p1 p3 p1 p3 p1 p3 p1 p3 p1 p3 p5 (0 : Int32) (0 : Int32) (0 : Int32) (0 : Int32) (0 : Int32) (0 : Int32) (0 : Int32) (0 : Int32) (0 : Int32) (0 : Int32) (0 : Int32) (0 : Int32) (0 : Int32) (0 : Int32) (0 : Int32) T534.heap n0 Z534 U534_1 U534_3) hZ (hw _ (List.mem_of_getElem? (i := 48) rfl)) (hw _ (List.mem_of_getElem? (i := 2) rfl)) (by decide) (by decide)) q546a q546c (g := (mkF m 123 #[.val (.int p1), .val (.int p2), .val (.int p3), .val (.int p4), .val (.int p5), .val (.int p6), .val (.ref b468), .val (.ref b475), .val (.int (1 : Int32)), .val (.int (1 : Int32)), .unset, .unset, .unset] [(.int (0 : Int32)), (.ref b468)])) rfl (by rw [hml]; rfl) (Steps.refl _) (argsL := [(.int (0 : Int32))]) (rest := []) (lenOf pd_6 rfl) rfl (by show 2 * 0 + _ ≤ _; exact Nat.le_of_eq rfl) (hb hby at_123) (fun _ _ => ⟨rfl, e544, (by decide : 8 + 0 ≤ _), (by decide : 134 + 0 ≤ _)⟩)
  dsimp only [Pt.U, Pt.locs, Pt.cells, Pt.slots] at X546 l546 y546 z546 st546 hQ546
  subst l546 y546 z546
  obtain ⟨rfl, Nq546, e546⟩ := hQ546
  have N546 := Fr.app N544 Nq546
  refine own_go (A := _) (B := T546.setTop (mkF m 126 #[.val (.int p1), .val (.int p2), .val (.int p3), .val (.int p4), .val (.int p5), .val (.int p6), .val (.ref b468), .val (.ref b475), .val (.int (1 : Int32)), .val (.int (1 : Int32)), .unset, .unset, .unset] [(.int p1)])) (fun t k => st546.trans k) ?_
  refine own_go (A := T546.setTop (mkF m 126 #[.val (.int p1), .val (.int p2), .val (.int p3), .val (.int p4), .val (.int p5), .val (.int p6), .val (.ref b468), .val (.ref b475), .val (.int (1 : Int32)), .val (.int (1 : Int32)), .unset, .unset, .unset] [(.int p1)])) (B := T546.setTop (mkF m 133 #[.val (.int p1), .val (.int p2), .val (.int p3), .val (.int p4), .val (.int p5), .val (.int p6), .val (.ref b468), .val (.ref b475), .val (.int (1 : Int32)), .val (.int (1 : Int32)), .unset, .unset, .unset] [(.int (0 : Int32)), (.ref b468)])) (fun t k => ?_) ?_
  · show Steps p.tables e below (T546.setTop (mkF m 126 #[.val (.int p1), .val (.int p2), .val (.int p3), .val (.int p4), .val (.int p5), .val (.int p6), .val (.ref b468), .val (.ref b475), .val (.int (1 : Int32)), .val (.int (1 : Int32)), .unset, .unset, .unset] [(.int p1)])) _
    refine XS.iloadN X546.here hx rfl (hb hby at_126) rfl ?_
    show Steps p.tables e below (T546.setTop (mkF m 127 #[.val (.int p1), .val (.int p2), .val (.int p3), .val (.int p4), .val (.int p5), .val (.int p6), .val (.ref b468), .val (.ref b475), .val (.int (1 : Int32)), .val (.int (1 : Int32)), .unset, .unset, .unset] [(.int p1), (.int p1)])) _
    refine XS.icmpNo X546.here hx rfl (hb hby at_127) rfl (teq (rfl : p1 = p1)).2 ?_
    show Steps p.tables e below (T546.setTop (mkF m 130 #[.val (.int p1), .val (.int p2), .val (.int p3), .val (.int p4), .val (.int p5), .val (.int p6), .val (.ref b468), .val (.ref b475), .val (.int (1 : Int32)), .val (.int (1 : Int32)), .unset, .unset, .unset] [])) _
    refine XS.aload X546.here hx rfl (hb hby at_130) rfl rfl ?_
    show Steps p.tables e below (T546.setTop (mkF m 132 #[.val (.int p1), .val (.int p2), .val (.int p3), .val (.int p4), .val (.int p5), .val (.int p6), .val (.ref b468), .val (.ref b475), .val (.int (1 : Int32)), .val (.int (1 : Int32)), .unset, .unset, .unset] [(.ref b468)])) _
    refine XS.iconst X546.here hx rfl (hb hby at_132) ?_
    exact k
  obtain ⟨cq548, kq548, q548a, q548b, q548c⟩ := isOf hZ e546 Q535
  obtain ⟨_, _, ⟨T548, L548, k548, n548⟩, -, X548, ⟨Lc548, hQ548, l548, y548, z548⟩, st548⟩ := X546.virtualBack hx (y := (⟨"com/example/axiomwright/axiomwright/Arcs", "head", "(I)I"⟩ : MethodName)) (z := (⟨"com/example/axiomwright/axiomwright/Arcs", "head", "(I)I"⟩ : MethodName)) hown (mvT hZ (hw _ (List.mem_of_getElem? (i := 49) rfl))) (mvT hZ (hw _ (List.mem_of_getElem? (i := 50) rfl))) (notFace_of_selects (args := #[]) (mvT hZ (hw _ (List.mem_of_getElem? (i := 52) rfl)))) (mvT hZ (hw _ (List.mem_of_getElem? (i := 52) rfl))) (mvT hZ (hw _ (List.mem_of_getElem? (i := 51) rfl))) (by decide) (backOf (W := 0) (rm9_0_32 l Z a0 hw [] b468 d2_534 k4_534 p2 p4 p2 p4 p2 p4 p2 p4 p2 p4 p2 p4 p2 p4 p2 p4 p6 (0 : Int32) (0 : Int32) (0 : Int32) (0 : Int32) (0 : Int32) (0 : Int32) (0 : Int32) (0 : Int32) (0 : Int32) (0 : Int32) (0 : Int32) (0 : Int32) (0 : Int32) (0 : Int32) (0 : Int32) T534.heap n0 Z534 U534_2 U534_4) hZ (hw _ (List.mem_of_getElem? (i := 53) rfl)) (hw _ (List.mem_of_getElem? (i := 2) rfl)) (by decide) (by decide)) q548a q548c (g := (mkF m 133 #[.val (.int p1), .val (.int p2), .val (.int p3), .val (.int p4), .val (.int p5), .val (.int p6), .val (.ref b468), .val (.ref b475), .val (.int (1 : Int32)), .val (.int (1 : Int32)), .unset, .unset, .unset] [(.int (0 : Int32)), (.ref b468)])) rfl (by rw [hml]; rfl) (Steps.refl _) (argsL := [(.int (0 : Int32))]) (rest := []) (lenOf pd_6 rfl) rfl (by show 2 * 0 + _ ≤ _; exact Nat.le_of_eq rfl) (hb hby at_133) (fun _ _ => ⟨rfl, e546, (by decide : 8 + 0 ≤ _), (by decide : 134 + 0 ≤ _)⟩)
  dsimp only [Pt.U, Pt.locs, Pt.cells, Pt.slots] at X548 l548 y548 z548 st548 hQ548
  subst l548 y548 z548
  obtain ⟨rfl, Nq548, e548⟩ := hQ548
  have N548 := Fr.app N546 Nq548
  refine own_go (A := _) (B := T548.setTop (mkF m 136 #[.val (.int p1), .val (.int p2), .val (.int p3), .val (.int p4), .val (.int p5), .val (.int p6), .val (.ref b468), .val (.ref b475), .val (.int (1 : Int32)), .val (.int (1 : Int32)), .unset, .unset, .unset] [(.int p2)])) (fun t k => st548.trans k) ?_
  refine own_go (A := T548.setTop (mkF m 136 #[.val (.int p1), .val (.int p2), .val (.int p3), .val (.int p4), .val (.int p5), .val (.int p6), .val (.ref b468), .val (.ref b475), .val (.int (1 : Int32)), .val (.int (1 : Int32)), .unset, .unset, .unset] [(.int p2)])) (B := T548.setTop (mkF m 144 #[.val (.int p1), .val (.int p2), .val (.int p3), .val (.int p4), .val (.int p5), .val (.int p6), .val (.ref b468), .val (.ref b475), .val (.int (1 : Int32)), .val (.int (1 : Int32)), .unset, .unset, .unset] [(.int (14 : Int32)), (.ref b468)])) (fun t k => ?_) ?_
  · show Steps p.tables e below (T548.setTop (mkF m 136 #[.val (.int p1), .val (.int p2), .val (.int p3), .val (.int p4), .val (.int p5), .val (.int p6), .val (.ref b468), .val (.ref b475), .val (.int (1 : Int32)), .val (.int (1 : Int32)), .unset, .unset, .unset] [(.int p2)])) _
    refine XS.iloadN X548.here hx rfl (hb hby at_136) rfl ?_
    show Steps p.tables e below (T548.setTop (mkF m 137 #[.val (.int p1), .val (.int p2), .val (.int p3), .val (.int p4), .val (.int p5), .val (.int p6), .val (.ref b468), .val (.ref b475), .val (.int (1 : Int32)), .val (.int (1 : Int32)), .unset, .unset, .unset] [(.int p2), (.int p2)])) _
    refine XS.icmpNo X548.here hx rfl (hb hby at_137) rfl (teq (rfl : p2 = p2)).2 ?_
    show Steps p.tables e below (T548.setTop (mkF m 140 #[.val (.int p1), .val (.int p2), .val (.int p3), .val (.int p4), .val (.int p5), .val (.int p6), .val (.ref b468), .val (.ref b475), .val (.int (1 : Int32)), .val (.int (1 : Int32)), .unset, .unset, .unset] [])) _
    refine XS.aload X548.here hx rfl (hb hby at_140) rfl rfl ?_
    show Steps p.tables e below (T548.setTop (mkF m 142 #[.val (.int p1), .val (.int p2), .val (.int p3), .val (.int p4), .val (.int p5), .val (.int p6), .val (.ref b468), .val (.ref b475), .val (.int (1 : Int32)), .val (.int (1 : Int32)), .unset, .unset, .unset] [(.ref b468)])) _
    refine XS.bipush X548.here hx rfl (hb hby at_142) ?_
    exact k
  obtain ⟨cq550, kq550, q550a, q550b, q550c⟩ := isOf hZ e548 Q535
  obtain ⟨_, _, ⟨T550, L550, k550, n550⟩, -, X550, ⟨Lc550, hQ550, l550, y550, z550⟩, st550⟩ := X548.virtualBack hx (y := (⟨"com/example/axiomwright/axiomwright/Arcs", "tail", "(I)I"⟩ : MethodName)) (z := (⟨"com/example/axiomwright/axiomwright/Arcs", "tail", "(I)I"⟩ : MethodName)) hown (mvT hZ (hw _ (List.mem_of_getElem? (i := 44) rfl))) (mvT hZ (hw _ (List.mem_of_getElem? (i := 45) rfl))) (notFace_of_selects (args := #[]) (mvT hZ (hw _ (List.mem_of_getElem? (i := 47) rfl)))) (mvT hZ (hw _ (List.mem_of_getElem? (i := 47) rfl))) (mvT hZ (hw _ (List.mem_of_getElem? (i := 46) rfl))) (by decide) (backOf (W := 0) (rm8_14_32 l Z a0 hw [] b468 d1_534 k3_534 p1 p3 p1 p3 p1 p3 p1 p3 p1 p3 p1 p3 p1 p3 p1 p3 p5 (0 : Int32) (0 : Int32) (0 : Int32) (0 : Int32) (0 : Int32) (0 : Int32) (0 : Int32) (0 : Int32) (0 : Int32) (0 : Int32) (0 : Int32) (0 : Int32) (0 : Int32) (0 : Int32) (0 : Int32) T534.heap n0 Z534 U534_1 U534_3) hZ (hw _ (List.mem_of_getElem? (i := 48) rfl)) (hw _ (List.mem_of_getElem? (i := 2) rfl)) (by decide) (by decide)) q550a q550c (g := (mkF m 144 #[.val (.int p1), .val (.int p2), .val (.int p3), .val (.int p4), .val (.int p5), .val (.int p6), .val (.ref b468), .val (.ref b475), .val (.int (1 : Int32)), .val (.int (1 : Int32)), .unset, .unset, .unset] [(.int (14 : Int32)), (.ref b468)])) rfl (by rw [hml]; rfl) (Steps.refl _) (argsL := [(.int (14 : Int32))]) (rest := []) (lenOf pd_6 rfl) rfl (by show 2 * 0 + _ ≤ _; exact Nat.le_of_eq rfl) (hb hby at_144) (fun _ _ => ⟨rfl, e548, (by decide : 8 + 0 ≤ _), (by decide : 134 + 0 ≤ _)⟩)
  dsimp only [Pt.U, Pt.locs, Pt.cells, Pt.slots] at X550 l550 y550 z550 st550 hQ550
  subst l550 y550 z550
  obtain ⟨rfl, Nq550, e550⟩ := hQ550
  have N550 := Fr.app N548 Nq550
  refine own_go (A := _) (B := T550.setTop (mkF m 147 #[.val (.int p1), .val (.int p2), .val (.int p3), .val (.int p4), .val (.int p5), .val (.int p6), .val (.ref b468), .val (.ref b475), .val (.int (1 : Int32)), .val (.int (1 : Int32)), .unset, .unset, .unset] [(.int p1)])) (fun t k => st550.trans k) ?_
  refine own_go (A := T550.setTop (mkF m 147 #[.val (.int p1), .val (.int p2), .val (.int p3), .val (.int p4), .val (.int p5), .val (.int p6), .val (.ref b468), .val (.ref b475), .val (.int (1 : Int32)), .val (.int (1 : Int32)), .unset, .unset, .unset] [(.int p1)])) (B := T550.setTop (mkF m 155 #[.val (.int p1), .val (.int p2), .val (.int p3), .val (.int p4), .val (.int p5), .val (.int p6), .val (.ref b468), .val (.ref b475), .val (.int (1 : Int32)), .val (.int (1 : Int32)), .unset, .unset, .unset] [(.int (14 : Int32)), (.ref b468)])) (fun t k => ?_) ?_
  · show Steps p.tables e below (T550.setTop (mkF m 147 #[.val (.int p1), .val (.int p2), .val (.int p3), .val (.int p4), .val (.int p5), .val (.int p6), .val (.ref b468), .val (.ref b475), .val (.int (1 : Int32)), .val (.int (1 : Int32)), .unset, .unset, .unset] [(.int p1)])) _
    refine XS.iloadN X550.here hx rfl (hb hby at_147) rfl ?_
    show Steps p.tables e below (T550.setTop (mkF m 148 #[.val (.int p1), .val (.int p2), .val (.int p3), .val (.int p4), .val (.int p5), .val (.int p6), .val (.ref b468), .val (.ref b475), .val (.int (1 : Int32)), .val (.int (1 : Int32)), .unset, .unset, .unset] [(.int p1), (.int p1)])) _
    refine XS.icmpNo X550.here hx rfl (hb hby at_148) rfl (teq (rfl : p1 = p1)).2 ?_
    show Steps p.tables e below (T550.setTop (mkF m 151 #[.val (.int p1), .val (.int p2), .val (.int p3), .val (.int p4), .val (.int p5), .val (.int p6), .val (.ref b468), .val (.ref b475), .val (.int (1 : Int32)), .val (.int (1 : Int32)), .unset, .unset, .unset] [])) _
    refine XS.aload X550.here hx rfl (hb hby at_151) rfl rfl ?_
    show Steps p.tables e below (T550.setTop (mkF m 153 #[.val (.int p1), .val (.int p2), .val (.int p3), .val (.int p4), .val (.int p5), .val (.int p6), .val (.ref b468), .val (.ref b475), .val (.int (1 : Int32)), .val (.int (1 : Int32)), .unset, .unset, .unset] [(.ref b468)])) _
    refine XS.bipush X550.here hx rfl (hb hby at_153) ?_
    exact k
  obtain ⟨cq552, kq552, q552a, q552b, q552c⟩ := isOf hZ e550 Q535
  obtain ⟨_, _, ⟨T552, L552, k552, n552⟩, -, X552, ⟨Lc552, hQ552, l552, y552, z552⟩, st552⟩ := X550.virtualBack hx (y := (⟨"com/example/axiomwright/axiomwright/Arcs", "head", "(I)I"⟩ : MethodName)) (z := (⟨"com/example/axiomwright/axiomwright/Arcs", "head", "(I)I"⟩ : MethodName)) hown (mvT hZ (hw _ (List.mem_of_getElem? (i := 49) rfl))) (mvT hZ (hw _ (List.mem_of_getElem? (i := 50) rfl))) (notFace_of_selects (args := #[]) (mvT hZ (hw _ (List.mem_of_getElem? (i := 52) rfl)))) (mvT hZ (hw _ (List.mem_of_getElem? (i := 52) rfl))) (mvT hZ (hw _ (List.mem_of_getElem? (i := 51) rfl))) (by decide) (backOf (W := 0) (rm9_14_32 l Z a0 hw [] b468 d2_534 k4_534 p2 p4 p2 p4 p2 p4 p2 p4 p2 p4 p2 p4 p2 p4 p2 p4 p6 (0 : Int32) (0 : Int32) (0 : Int32) (0 : Int32) (0 : Int32) (0 : Int32) (0 : Int32) (0 : Int32) (0 : Int32) (0 : Int32) (0 : Int32) (0 : Int32) (0 : Int32) (0 : Int32) (0 : Int32) T534.heap n0 Z534 U534_2 U534_4) hZ (hw _ (List.mem_of_getElem? (i := 53) rfl)) (hw _ (List.mem_of_getElem? (i := 2) rfl)) (by decide) (by decide)) q552a q552c (g := (mkF m 155 #[.val (.int p1), .val (.int p2), .val (.int p3), .val (.int p4), .val (.int p5), .val (.int p6), .val (.ref b468), .val (.ref b475), .val (.int (1 : Int32)), .val (.int (1 : Int32)), .unset, .unset, .unset] [(.int (14 : Int32)), (.ref b468)])) rfl (by rw [hml]; rfl) (Steps.refl _) (argsL := [(.int (14 : Int32))]) (rest := []) (lenOf pd_6 rfl) rfl (by show 2 * 0 + _ ≤ _; exact Nat.le_of_eq rfl) (hb hby at_155) (fun _ _ => ⟨rfl, e550, (by decide : 8 + 0 ≤ _), (by decide : 134 + 0 ≤ _)⟩)
  dsimp only [Pt.U, Pt.locs, Pt.cells, Pt.slots] at X552 l552 y552 z552 st552 hQ552
  subst l552 y552 z552
  obtain ⟨rfl, Nq552, e552⟩ := hQ552
  have N552 := Fr.app N550 Nq552
  refine own_go (A := _) (B := T552.setTop (mkF m 158 #[.val (.int p1), .val (.int p2), .val (.int p3), .val (.int p4), .val (.int p5), .val (.int p6), .val (.ref b468), .val (.ref b475), .val (.int (1 : Int32)), .val (.int (1 : Int32)), .unset, .unset, .unset] [(.int p2)])) (fun t k => st552.trans k) ?_
  refine own_go (A := T552.setTop (mkF m 158 #[.val (.int p1), .val (.int p2), .val (.int p3), .val (.int p4), .val (.int p5), .val (.int p6), .val (.ref b468), .val (.ref b475), .val (.int (1 : Int32)), .val (.int (1 : Int32)), .unset, .unset, .unset] [(.int p2)])) (B := T552.setTop (mkF m 166 #[.val (.int p1), .val (.int p2), .val (.int p3), .val (.int p4), .val (.int p5), .val (.int p6), .val (.ref b468), .val (.ref b475), .val (.int (1 : Int32)), .val (.int (1 : Int32)), .unset, .unset, .unset] [(.int (15 : Int32)), (.ref b468)])) (fun t k => ?_) ?_
  · show Steps p.tables e below (T552.setTop (mkF m 158 #[.val (.int p1), .val (.int p2), .val (.int p3), .val (.int p4), .val (.int p5), .val (.int p6), .val (.ref b468), .val (.ref b475), .val (.int (1 : Int32)), .val (.int (1 : Int32)), .unset, .unset, .unset] [(.int p2)])) _
    refine XS.iloadN X552.here hx rfl (hb hby at_158) rfl ?_
    show Steps p.tables e below (T552.setTop (mkF m 159 #[.val (.int p1), .val (.int p2), .val (.int p3), .val (.int p4), .val (.int p5), .val (.int p6), .val (.ref b468), .val (.ref b475), .val (.int (1 : Int32)), .val (.int (1 : Int32)), .unset, .unset, .unset] [(.int p2), (.int p2)])) _
    refine XS.icmpNo X552.here hx rfl (hb hby at_159) rfl (teq (rfl : p2 = p2)).2 ?_
    show Steps p.tables e below (T552.setTop (mkF m 162 #[.val (.int p1), .val (.int p2), .val (.int p3), .val (.int p4), .val (.int p5), .val (.int p6), .val (.ref b468), .val (.ref b475), .val (.int (1 : Int32)), .val (.int (1 : Int32)), .unset, .unset, .unset] [])) _
    refine XS.aload X552.here hx rfl (hb hby at_162) rfl rfl ?_
    show Steps p.tables e below (T552.setTop (mkF m 164 #[.val (.int p1), .val (.int p2), .val (.int p3), .val (.int p4), .val (.int p5), .val (.int p6), .val (.ref b468), .val (.ref b475), .val (.int (1 : Int32)), .val (.int (1 : Int32)), .unset, .unset, .unset] [(.ref b468)])) _
    refine XS.bipush X552.here hx rfl (hb hby at_164) ?_
    exact k
  obtain ⟨cq554, kq554, q554a, q554b, q554c⟩ := isOf hZ e552 Q535
  obtain ⟨_, _, ⟨T554, L554, k554, n554⟩, -, X554, ⟨Lc554, hQ554, l554, y554, z554⟩, st554⟩ := X552.virtualBack hx (y := (⟨"com/example/axiomwright/axiomwright/Arcs", "tail", "(I)I"⟩ : MethodName)) (z := (⟨"com/example/axiomwright/axiomwright/Arcs", "tail", "(I)I"⟩ : MethodName)) hown (mvT hZ (hw _ (List.mem_of_getElem? (i := 44) rfl))) (mvT hZ (hw _ (List.mem_of_getElem? (i := 45) rfl))) (notFace_of_selects (args := #[]) (mvT hZ (hw _ (List.mem_of_getElem? (i := 47) rfl)))) (mvT hZ (hw _ (List.mem_of_getElem? (i := 47) rfl))) (mvT hZ (hw _ (List.mem_of_getElem? (i := 46) rfl))) (by decide) (backOf (W := 0) (rm8_15_32 l Z a0 hw [] b468 d1_534 k3_534 p1 p3 p1 p3 p1 p3 p1 p3 p1 p3 p1 p3 p1 p3 p1 p3 p5 (0 : Int32) (0 : Int32) (0 : Int32) (0 : Int32) (0 : Int32) (0 : Int32) (0 : Int32) (0 : Int32) (0 : Int32) (0 : Int32) (0 : Int32) (0 : Int32) (0 : Int32) (0 : Int32) (0 : Int32) T534.heap n0 Z534 U534_1 U534_3) hZ (hw _ (List.mem_of_getElem? (i := 48) rfl)) (hw _ (List.mem_of_getElem? (i := 2) rfl)) (by decide) (by decide)) q554a q554c (g := (mkF m 166 #[.val (.int p1), .val (.int p2), .val (.int p3), .val (.int p4), .val (.int p5), .val (.int p6), .val (.ref b468), .val (.ref b475), .val (.int (1 : Int32)), .val (.int (1 : Int32)), .unset, .unset, .unset] [(.int (15 : Int32)), (.ref b468)])) rfl (by rw [hml]; rfl) (Steps.refl _) (argsL := [(.int (15 : Int32))]) (rest := []) (lenOf pd_6 rfl) rfl (by show 2 * 0 + _ ≤ _; exact Nat.le_of_eq rfl) (hb hby at_166) (fun _ _ => ⟨rfl, e552, (by decide : 8 + 0 ≤ _), (by decide : 134 + 0 ≤ _)⟩)
  dsimp only [Pt.U, Pt.locs, Pt.cells, Pt.slots] at X554 l554 y554 z554 st554 hQ554
  subst l554 y554 z554
  obtain ⟨rfl, Nq554, e554⟩ := hQ554
  have N554 := Fr.app N552 Nq554
  refine own_go (A := _) (B := T554.setTop (mkF m 169 #[.val (.int p1), .val (.int p2), .val (.int p3), .val (.int p4), .val (.int p5), .val (.int p6), .val (.ref b468), .val (.ref b475), .val (.int (1 : Int32)), .val (.int (1 : Int32)), .unset, .unset, .unset] [(.int p3)])) (fun t k => st554.trans k) ?_
  refine own_go (A := T554.setTop (mkF m 169 #[.val (.int p1), .val (.int p2), .val (.int p3), .val (.int p4), .val (.int p5), .val (.int p6), .val (.ref b468), .val (.ref b475), .val (.int (1 : Int32)), .val (.int (1 : Int32)), .unset, .unset, .unset] [(.int p3)])) (B := T554.setTop (mkF m 177 #[.val (.int p1), .val (.int p2), .val (.int p3), .val (.int p4), .val (.int p5), .val (.int p6), .val (.ref b468), .val (.ref b475), .val (.int (1 : Int32)), .val (.int (1 : Int32)), .unset, .unset, .unset] [(.int (15 : Int32)), (.ref b468)])) (fun t k => ?_) ?_
  · show Steps p.tables e below (T554.setTop (mkF m 169 #[.val (.int p1), .val (.int p2), .val (.int p3), .val (.int p4), .val (.int p5), .val (.int p6), .val (.ref b468), .val (.ref b475), .val (.int (1 : Int32)), .val (.int (1 : Int32)), .unset, .unset, .unset] [(.int p3)])) _
    refine XS.iloadN X554.here hx rfl (hb hby at_169) rfl ?_
    show Steps p.tables e below (T554.setTop (mkF m 170 #[.val (.int p1), .val (.int p2), .val (.int p3), .val (.int p4), .val (.int p5), .val (.int p6), .val (.ref b468), .val (.ref b475), .val (.int (1 : Int32)), .val (.int (1 : Int32)), .unset, .unset, .unset] [(.int p3), (.int p3)])) _
    refine XS.icmpNo X554.here hx rfl (hb hby at_170) rfl (teq (rfl : p3 = p3)).2 ?_
    show Steps p.tables e below (T554.setTop (mkF m 173 #[.val (.int p1), .val (.int p2), .val (.int p3), .val (.int p4), .val (.int p5), .val (.int p6), .val (.ref b468), .val (.ref b475), .val (.int (1 : Int32)), .val (.int (1 : Int32)), .unset, .unset, .unset] [])) _
    refine XS.aload X554.here hx rfl (hb hby at_173) rfl rfl ?_
    show Steps p.tables e below (T554.setTop (mkF m 175 #[.val (.int p1), .val (.int p2), .val (.int p3), .val (.int p4), .val (.int p5), .val (.int p6), .val (.ref b468), .val (.ref b475), .val (.int (1 : Int32)), .val (.int (1 : Int32)), .unset, .unset, .unset] [(.ref b468)])) _
    refine XS.bipush X554.here hx rfl (hb hby at_175) ?_
    exact k
  obtain ⟨cq556, kq556, q556a, q556b, q556c⟩ := isOf hZ e554 Q535
  obtain ⟨_, _, ⟨T556, L556, k556, n556⟩, -, X556, ⟨Lc556, hQ556, l556, y556, z556⟩, st556⟩ := X554.virtualBack hx (y := (⟨"com/example/axiomwright/axiomwright/Arcs", "head", "(I)I"⟩ : MethodName)) (z := (⟨"com/example/axiomwright/axiomwright/Arcs", "head", "(I)I"⟩ : MethodName)) hown (mvT hZ (hw _ (List.mem_of_getElem? (i := 49) rfl))) (mvT hZ (hw _ (List.mem_of_getElem? (i := 50) rfl))) (notFace_of_selects (args := #[]) (mvT hZ (hw _ (List.mem_of_getElem? (i := 52) rfl)))) (mvT hZ (hw _ (List.mem_of_getElem? (i := 52) rfl))) (mvT hZ (hw _ (List.mem_of_getElem? (i := 51) rfl))) (by decide) (backOf (W := 0) (rm9_15_32 l Z a0 hw [] b468 d2_534 k4_534 p2 p4 p2 p4 p2 p4 p2 p4 p2 p4 p2 p4 p2 p4 p2 p4 p6 (0 : Int32) (0 : Int32) (0 : Int32) (0 : Int32) (0 : Int32) (0 : Int32) (0 : Int32) (0 : Int32) (0 : Int32) (0 : Int32) (0 : Int32) (0 : Int32) (0 : Int32) (0 : Int32) (0 : Int32) T534.heap n0 Z534 U534_2 U534_4) hZ (hw _ (List.mem_of_getElem? (i := 53) rfl)) (hw _ (List.mem_of_getElem? (i := 2) rfl)) (by decide) (by decide)) q556a q556c (g := (mkF m 177 #[.val (.int p1), .val (.int p2), .val (.int p3), .val (.int p4), .val (.int p5), .val (.int p6), .val (.ref b468), .val (.ref b475), .val (.int (1 : Int32)), .val (.int (1 : Int32)), .unset, .unset, .unset] [(.int (15 : Int32)), (.ref b468)])) rfl (by rw [hml]; rfl) (Steps.refl _) (argsL := [(.int (15 : Int32))]) (rest := []) (lenOf pd_6 rfl) rfl (by show 2 * 0 + _ ≤ _; exact Nat.le_of_eq rfl) (hb hby at_177) (fun _ _ => ⟨rfl, e554, (by decide : 8 + 0 ≤ _), (by decide : 134 + 0 ≤ _)⟩)
  dsimp only [Pt.U, Pt.locs, Pt.cells, Pt.slots] at X556 l556 y556 z556 st556 hQ556
  subst l556 y556 z556
  obtain ⟨rfl, Nq556, e556⟩ := hQ556
  have N556 := Fr.app N554 Nq556
  refine own_go (A := _) (B := T556.setTop (mkF m 180 #[.val (.int p1), .val (.int p2), .val (.int p3), .val (.int p4), .val (.int p5), .val (.int p6), .val (.ref b468), .val (.ref b475), .val (.int (1 : Int32)), .val (.int (1 : Int32)), .unset, .unset, .unset] [(.int p4)])) (fun t k => st556.trans k) ?_
  refine own_go (A := T556.setTop (mkF m 180 #[.val (.int p1), .val (.int p2), .val (.int p3), .val (.int p4), .val (.int p5), .val (.int p6), .val (.ref b468), .val (.ref b475), .val (.int (1 : Int32)), .val (.int (1 : Int32)), .unset, .unset, .unset] [(.int p4)])) (B := T556.setTop (mkF m 195 #[.val (.int p1), .val (.int p2), .val (.int p3), .val (.int p4), .val (.int p5), .val (.int p6), .val (.ref b468), .val (.ref b475), .val (.int (1 : Int32)), .val (.int (1 : Int32)), .val (.int (1 : Int32)), .unset, .unset] [(.int (16 : Int32)), (.ref b468)])) (fun t k => ?_) ?_
  · show Steps p.tables e below (T556.setTop (mkF m 180 #[.val (.int p1), .val (.int p2), .val (.int p3), .val (.int p4), .val (.int p5), .val (.int p6), .val (.ref b468), .val (.ref b475), .val (.int (1 : Int32)), .val (.int (1 : Int32)), .unset, .unset, .unset] [(.int p4)])) _
    refine XS.iloadN X556.here hx rfl (hb hby at_180) rfl ?_
    show Steps p.tables e below (T556.setTop (mkF m 181 #[.val (.int p1), .val (.int p2), .val (.int p3), .val (.int p4), .val (.int p5), .val (.int p6), .val (.ref b468), .val (.ref b475), .val (.int (1 : Int32)), .val (.int (1 : Int32)), .unset, .unset, .unset] [(.int p4), (.int p4)])) _
    refine XS.icmpNo X556.here hx rfl (hb hby at_181) rfl (teq (rfl : p4 = p4)).2 ?_
    show Steps p.tables e below (T556.setTop (mkF m 184 #[.val (.int p1), .val (.int p2), .val (.int p3), .val (.int p4), .val (.int p5), .val (.int p6), .val (.ref b468), .val (.ref b475), .val (.int (1 : Int32)), .val (.int (1 : Int32)), .unset, .unset, .unset] [])) _
    refine XS.iconst X556.here hx rfl (hb hby at_184) ?_
    show Steps p.tables e below (T556.setTop (mkF m 185 #[.val (.int p1), .val (.int p2), .val (.int p3), .val (.int p4), .val (.int p5), .val (.int p6), .val (.ref b468), .val (.ref b475), .val (.int (1 : Int32)), .val (.int (1 : Int32)), .unset, .unset, .unset] [(.int (1 : Int32))])) _
    refine XS.goto X556.here hx rfl (pc0 := 185) (pc' := 189) rfl (hb hby at_185) (by decide) (by decide) ?_
    show Steps p.tables e below (T556.setTop (mkF m 189 #[.val (.int p1), .val (.int p2), .val (.int p3), .val (.int p4), .val (.int p5), .val (.int p6), .val (.ref b468), .val (.ref b475), .val (.int (1 : Int32)), .val (.int (1 : Int32)), .unset, .unset, .unset] [(.int (1 : Int32))])) _
    refine XS.istore X556.here hx rfl (hb hby at_189) rfl (l' := #[.val (.int p1), .val (.int p2), .val (.int p3), .val (.int p4), .val (.int p5), .val (.int p6), .val (.ref b468), .val (.ref b475), .val (.int (1 : Int32)), .val (.int (1 : Int32)), .val (.int (1 : Int32)), .unset, .unset]) rfl ?_
    show Steps p.tables e below (T556.setTop (mkF m 191 #[.val (.int p1), .val (.int p2), .val (.int p3), .val (.int p4), .val (.int p5), .val (.int p6), .val (.ref b468), .val (.ref b475), .val (.int (1 : Int32)), .val (.int (1 : Int32)), .val (.int (1 : Int32)), .unset, .unset] [])) _
    refine XS.aload X556.here hx rfl (hb hby at_191) rfl rfl ?_
    show Steps p.tables e below (T556.setTop (mkF m 193 #[.val (.int p1), .val (.int p2), .val (.int p3), .val (.int p4), .val (.int p5), .val (.int p6), .val (.ref b468), .val (.ref b475), .val (.int (1 : Int32)), .val (.int (1 : Int32)), .val (.int (1 : Int32)), .unset, .unset] [(.ref b468)])) _
    refine XS.bipush X556.here hx rfl (hb hby at_193) ?_
    exact k
  obtain ⟨cq558, kq558, q558a, q558b, q558c⟩ := isOf hZ e556 Q535
  obtain ⟨_, _, ⟨T558, L558, k558, n558⟩, -, X558, ⟨Lc558, hQ558, l558, y558, z558⟩, st558⟩ := X556.virtualBack hx (y := (⟨"com/example/axiomwright/axiomwright/Arcs", "tail", "(I)I"⟩ : MethodName)) (z := (⟨"com/example/axiomwright/axiomwright/Arcs", "tail", "(I)I"⟩ : MethodName)) hown (mvT hZ (hw _ (List.mem_of_getElem? (i := 44) rfl))) (mvT hZ (hw _ (List.mem_of_getElem? (i := 45) rfl))) (notFace_of_selects (args := #[]) (mvT hZ (hw _ (List.mem_of_getElem? (i := 47) rfl)))) (mvT hZ (hw _ (List.mem_of_getElem? (i := 47) rfl))) (mvT hZ (hw _ (List.mem_of_getElem? (i := 46) rfl))) (by decide) (backOf (W := 0) (rm8_16_32 l Z a0 hw [] b468 d1_534 k3_534 p1 p3 p1 p3 p1 p3 p1 p3 p1 p3 p1 p3 p1 p3 p1 p3 p5 (0 : Int32) (0 : Int32) (0 : Int32) (0 : Int32) (0 : Int32) (0 : Int32) (0 : Int32) (0 : Int32) (0 : Int32) (0 : Int32) (0 : Int32) (0 : Int32) (0 : Int32) (0 : Int32) (0 : Int32) T534.heap n0 Z534 U534_1 U534_3) hZ (hw _ (List.mem_of_getElem? (i := 48) rfl)) (hw _ (List.mem_of_getElem? (i := 2) rfl)) (by decide) (by decide)) q558a q558c (g := (mkF m 195 #[.val (.int p1), .val (.int p2), .val (.int p3), .val (.int p4), .val (.int p5), .val (.int p6), .val (.ref b468), .val (.ref b475), .val (.int (1 : Int32)), .val (.int (1 : Int32)), .val (.int (1 : Int32)), .unset, .unset] [(.int (16 : Int32)), (.ref b468)])) rfl (by rw [hml]; rfl) (Steps.refl _) (argsL := [(.int (16 : Int32))]) (rest := []) (lenOf pd_6 rfl) rfl (by show 2 * 0 + _ ≤ _; exact Nat.le_of_eq rfl) (hb hby at_195) (fun _ _ => ⟨rfl, e556, (by decide : 8 + 0 ≤ _), (by decide : 134 + 0 ≤ _)⟩)
  dsimp only [Pt.U, Pt.locs, Pt.cells, Pt.slots] at X558 l558 y558 z558 st558 hQ558
  subst l558 y558 z558
  obtain ⟨rfl, Nq558, e558⟩ := hQ558
  have N558 := Fr.app N556 Nq558
  refine own_go (A := _) (B := T558.setTop (mkF m 198 #[.val (.int p1), .val (.int p2), .val (.int p3), .val (.int p4), .val (.int p5), .val (.int p6), .val (.ref b468), .val (.ref b475), .val (.int (1 : Int32)), .val (.int (1 : Int32)), .val (.int (1 : Int32)), .unset, .unset] [(.int p5)])) (fun t k => st558.trans k) ?_
  refine own_go (A := T558.setTop (mkF m 198 #[.val (.int p1), .val (.int p2), .val (.int p3), .val (.int p4), .val (.int p5), .val (.int p6), .val (.ref b468), .val (.ref b475), .val (.int (1 : Int32)), .val (.int (1 : Int32)), .val (.int (1 : Int32)), .unset, .unset] [(.int p5)])) (B := T558.setTop (mkF m 207 #[.val (.int p1), .val (.int p2), .val (.int p3), .val (.int p4), .val (.int p5), .val (.int p6), .val (.ref b468), .val (.ref b475), .val (.int (1 : Int32)), .val (.int (1 : Int32)), .val (.int (1 : Int32)), .unset, .unset] [(.int (16 : Int32)), (.ref b468)])) (fun t k => ?_) ?_
  · show Steps p.tables e below (T558.setTop (mkF m 198 #[.val (.int p1), .val (.int p2), .val (.int p3), .val (.int p4), .val (.int p5), .val (.int p6), .val (.ref b468), .val (.ref b475), .val (.int (1 : Int32)), .val (.int (1 : Int32)), .val (.int (1 : Int32)), .unset, .unset] [(.int p5)])) _
    refine XS.iload X558.here hx rfl (hb hby at_198) rfl ?_
    show Steps p.tables e below (T558.setTop (mkF m 200 #[.val (.int p1), .val (.int p2), .val (.int p3), .val (.int p4), .val (.int p5), .val (.int p6), .val (.ref b468), .val (.ref b475), .val (.int (1 : Int32)), .val (.int (1 : Int32)), .val (.int (1 : Int32)), .unset, .unset] [(.int p5), (.int p5)])) _
    refine XS.icmpNo X558.here hx rfl (hb hby at_200) rfl (teq (rfl : p5 = p5)).2 ?_
    show Steps p.tables e below (T558.setTop (mkF m 203 #[.val (.int p1), .val (.int p2), .val (.int p3), .val (.int p4), .val (.int p5), .val (.int p6), .val (.ref b468), .val (.ref b475), .val (.int (1 : Int32)), .val (.int (1 : Int32)), .val (.int (1 : Int32)), .unset, .unset] [])) _
    refine XS.aload X558.here hx rfl (hb hby at_203) rfl rfl ?_
    show Steps p.tables e below (T558.setTop (mkF m 205 #[.val (.int p1), .val (.int p2), .val (.int p3), .val (.int p4), .val (.int p5), .val (.int p6), .val (.ref b468), .val (.ref b475), .val (.int (1 : Int32)), .val (.int (1 : Int32)), .val (.int (1 : Int32)), .unset, .unset] [(.ref b468)])) _
    refine XS.bipush X558.here hx rfl (hb hby at_205) ?_
    exact k
  obtain ⟨cq560, kq560, q560a, q560b, q560c⟩ := isOf hZ e558 Q535
  obtain ⟨_, _, ⟨T560, L560, k560, n560⟩, -, X560, ⟨Lc560, hQ560, l560, y560, z560⟩, st560⟩ := X558.virtualBack hx (y := (⟨"com/example/axiomwright/axiomwright/Arcs", "head", "(I)I"⟩ : MethodName)) (z := (⟨"com/example/axiomwright/axiomwright/Arcs", "head", "(I)I"⟩ : MethodName)) hown (mvT hZ (hw _ (List.mem_of_getElem? (i := 49) rfl))) (mvT hZ (hw _ (List.mem_of_getElem? (i := 50) rfl))) (notFace_of_selects (args := #[]) (mvT hZ (hw _ (List.mem_of_getElem? (i := 52) rfl)))) (mvT hZ (hw _ (List.mem_of_getElem? (i := 52) rfl))) (mvT hZ (hw _ (List.mem_of_getElem? (i := 51) rfl))) (by decide) (backOf (W := 0) (rm9_16_32 l Z a0 hw [] b468 d2_534 k4_534 p2 p4 p2 p4 p2 p4 p2 p4 p2 p4 p2 p4 p2 p4 p2 p4 p6 (0 : Int32) (0 : Int32) (0 : Int32) (0 : Int32) (0 : Int32) (0 : Int32) (0 : Int32) (0 : Int32) (0 : Int32) (0 : Int32) (0 : Int32) (0 : Int32) (0 : Int32) (0 : Int32) (0 : Int32) T534.heap n0 Z534 U534_2 U534_4) hZ (hw _ (List.mem_of_getElem? (i := 53) rfl)) (hw _ (List.mem_of_getElem? (i := 2) rfl)) (by decide) (by decide)) q560a q560c (g := (mkF m 207 #[.val (.int p1), .val (.int p2), .val (.int p3), .val (.int p4), .val (.int p5), .val (.int p6), .val (.ref b468), .val (.ref b475), .val (.int (1 : Int32)), .val (.int (1 : Int32)), .val (.int (1 : Int32)), .unset, .unset] [(.int (16 : Int32)), (.ref b468)])) rfl (by rw [hml]; rfl) (Steps.refl _) (argsL := [(.int (16 : Int32))]) (rest := []) (lenOf pd_6 rfl) rfl (by show 2 * 0 + _ ≤ _; exact Nat.le_of_eq rfl) (hb hby at_207) (fun _ _ => ⟨rfl, e558, (by decide : 8 + 0 ≤ _), (by decide : 134 + 0 ≤ _)⟩)
  dsimp only [Pt.U, Pt.locs, Pt.cells, Pt.slots] at X560 l560 y560 z560 st560 hQ560
  subst l560 y560 z560
  obtain ⟨rfl, Nq560, e560⟩ := hQ560
  have N560 := Fr.app N558 Nq560
  refine own_go (A := _) (B := T560.setTop (mkF m 210 #[.val (.int p1), .val (.int p2), .val (.int p3), .val (.int p4), .val (.int p5), .val (.int p6), .val (.ref b468), .val (.ref b475), .val (.int (1 : Int32)), .val (.int (1 : Int32)), .val (.int (1 : Int32)), .unset, .unset] [(.int p6)])) (fun t k => st560.trans k) ?_
  refine own_go (A := T560.setTop (mkF m 210 #[.val (.int p1), .val (.int p2), .val (.int p3), .val (.int p4), .val (.int p5), .val (.int p6), .val (.ref b468), .val (.ref b475), .val (.int (1 : Int32)), .val (.int (1 : Int32)), .val (.int (1 : Int32)), .unset, .unset] [(.int p6)])) (B := T560.setTop (mkF m 226 #[.val (.int p1), .val (.int p2), .val (.int p3), .val (.int p4), .val (.int p5), .val (.int p6), .val (.ref b468), .val (.ref b475), .val (.int (1 : Int32)), .val (.int (1 : Int32)), .val (.int (1 : Int32)), .val (.int (1 : Int32)), .unset] [(.int (9 : Int32)), (.ref b475)])) (fun t k => ?_) ?_
  · show Steps p.tables e below (T560.setTop (mkF m 210 #[.val (.int p1), .val (.int p2), .val (.int p3), .val (.int p4), .val (.int p5), .val (.int p6), .val (.ref b468), .val (.ref b475), .val (.int (1 : Int32)), .val (.int (1 : Int32)), .val (.int (1 : Int32)), .unset, .unset] [(.int p6)])) _
    refine XS.iload X560.here hx rfl (hb hby at_210) rfl ?_
    show Steps p.tables e below (T560.setTop (mkF m 212 #[.val (.int p1), .val (.int p2), .val (.int p3), .val (.int p4), .val (.int p5), .val (.int p6), .val (.ref b468), .val (.ref b475), .val (.int (1 : Int32)), .val (.int (1 : Int32)), .val (.int (1 : Int32)), .unset, .unset] [(.int p6), (.int p6)])) _
    refine XS.icmpNo X560.here hx rfl (hb hby at_212) rfl (teq (rfl : p6 = p6)).2 ?_
    show Steps p.tables e below (T560.setTop (mkF m 215 #[.val (.int p1), .val (.int p2), .val (.int p3), .val (.int p4), .val (.int p5), .val (.int p6), .val (.ref b468), .val (.ref b475), .val (.int (1 : Int32)), .val (.int (1 : Int32)), .val (.int (1 : Int32)), .unset, .unset] [])) _
    refine XS.iconst X560.here hx rfl (hb hby at_215) ?_
    show Steps p.tables e below (T560.setTop (mkF m 216 #[.val (.int p1), .val (.int p2), .val (.int p3), .val (.int p4), .val (.int p5), .val (.int p6), .val (.ref b468), .val (.ref b475), .val (.int (1 : Int32)), .val (.int (1 : Int32)), .val (.int (1 : Int32)), .unset, .unset] [(.int (1 : Int32))])) _
    refine XS.goto X560.here hx rfl (pc0 := 216) (pc' := 220) rfl (hb hby at_216) (by decide) (by decide) ?_
    show Steps p.tables e below (T560.setTop (mkF m 220 #[.val (.int p1), .val (.int p2), .val (.int p3), .val (.int p4), .val (.int p5), .val (.int p6), .val (.ref b468), .val (.ref b475), .val (.int (1 : Int32)), .val (.int (1 : Int32)), .val (.int (1 : Int32)), .unset, .unset] [(.int (1 : Int32))])) _
    refine XS.istore X560.here hx rfl (hb hby at_220) rfl (l' := #[.val (.int p1), .val (.int p2), .val (.int p3), .val (.int p4), .val (.int p5), .val (.int p6), .val (.ref b468), .val (.ref b475), .val (.int (1 : Int32)), .val (.int (1 : Int32)), .val (.int (1 : Int32)), .val (.int (1 : Int32)), .unset]) rfl ?_
    show Steps p.tables e below (T560.setTop (mkF m 222 #[.val (.int p1), .val (.int p2), .val (.int p3), .val (.int p4), .val (.int p5), .val (.int p6), .val (.ref b468), .val (.ref b475), .val (.int (1 : Int32)), .val (.int (1 : Int32)), .val (.int (1 : Int32)), .val (.int (1 : Int32)), .unset] [])) _
    refine XS.aload X560.here hx rfl (hb hby at_222) rfl rfl ?_
    show Steps p.tables e below (T560.setTop (mkF m 224 #[.val (.int p1), .val (.int p2), .val (.int p3), .val (.int p4), .val (.int p5), .val (.int p6), .val (.ref b468), .val (.ref b475), .val (.int (1 : Int32)), .val (.int (1 : Int32)), .val (.int (1 : Int32)), .val (.int (1 : Int32)), .unset] [(.ref b475)])) _
    refine XS.bipush X560.here hx rfl (hb hby at_224) ?_
    exact k
  obtain ⟨cq562, kq562, q562a, q562b, q562c⟩ := isOf hZ e560 Q536
  obtain ⟨_, _, ⟨T562, L562, k562, n562⟩, -, X562, ⟨Lc562, hQ562, l562, y562, z562⟩, st562⟩ := X560.virtualBack hx (y := (⟨"com/example/axiomwright/axiomwright/Arcs", "tail", "(I)I"⟩ : MethodName)) (z := (⟨"com/example/axiomwright/axiomwright/Arcs", "tail", "(I)I"⟩ : MethodName)) hown (mvT hZ (hw _ (List.mem_of_getElem? (i := 44) rfl))) (mvT hZ (hw _ (List.mem_of_getElem? (i := 45) rfl))) (notFace_of_selects (args := #[]) (mvT hZ (hw _ (List.mem_of_getElem? (i := 47) rfl)))) (mvT hZ (hw _ (List.mem_of_getElem? (i := 47) rfl))) (mvT hZ (hw _ (List.mem_of_getElem? (i := 46) rfl))) (by decide) (backOf (W := 0) (rm8_9_16 l Z a0 hw [] b475 b1_482 k1_482 p1 p3 p1 p3 p1 p3 p1 p3 p1 p3 (0 : Int32) (0 : Int32) (0 : Int32) (0 : Int32) (0 : Int32) (0 : Int32) T534.heap n0 Z534 Q538 Q540) hZ (hw _ (List.mem_of_getElem? (i := 48) rfl)) (hw _ (List.mem_of_getElem? (i := 2) rfl)) (by decide) (by decide)) q562a q562c (g := (mkF m 226 #[.val (.int p1), .val (.int p2), .val (.int p3), .val (.int p4), .val (.int p5), .val (.int p6), .val (.ref b468), .val (.ref b475), .val (.int (1 : Int32)), .val (.int (1 : Int32)), .val (.int (1 : Int32)), .val (.int (1 : Int32)), .unset] [(.int (9 : Int32)), (.ref b475)])) rfl (by rw [hml]; rfl) (Steps.refl _) (argsL := [(.int (9 : Int32))]) (rest := []) (lenOf pd_6 rfl) rfl (by show 2 * 0 + _ ≤ _; exact Nat.le_of_eq rfl) (hb hby at_226) (fun _ _ => ⟨rfl, e560, (by decide : 8 + 0 ≤ _), (by decide : 134 + 0 ≤ _)⟩)
  dsimp only [Pt.U, Pt.locs, Pt.cells, Pt.slots] at X562 l562 y562 z562 st562 hQ562
  subst l562 y562 z562
  obtain ⟨rfl, Nq562, e562⟩ := hQ562
  have N562 := Fr.app N560 Nq562
  refine own_go (A := _) (B := T562.setTop (mkF m 229 #[.val (.int p1), .val (.int p2), .val (.int p3), .val (.int p4), .val (.int p5), .val (.int p6), .val (.ref b468), .val (.ref b475), .val (.int (1 : Int32)), .val (.int (1 : Int32)), .val (.int (1 : Int32)), .val (.int (1 : Int32)), .unset] [(.int p3)])) (fun t k => st562.trans k) ?_
  refine own_go (A := T562.setTop (mkF m 229 #[.val (.int p1), .val (.int p2), .val (.int p3), .val (.int p4), .val (.int p5), .val (.int p6), .val (.ref b468), .val (.ref b475), .val (.int (1 : Int32)), .val (.int (1 : Int32)), .val (.int (1 : Int32)), .val (.int (1 : Int32)), .unset] [(.int p3)])) (B := T562.setTop (mkF m 237 #[.val (.int p1), .val (.int p2), .val (.int p3), .val (.int p4), .val (.int p5), .val (.int p6), .val (.ref b468), .val (.ref b475), .val (.int (1 : Int32)), .val (.int (1 : Int32)), .val (.int (1 : Int32)), .val (.int (1 : Int32)), .unset] [(.int (9 : Int32)), (.ref b475)])) (fun t k => ?_) ?_
  · show Steps p.tables e below (T562.setTop (mkF m 229 #[.val (.int p1), .val (.int p2), .val (.int p3), .val (.int p4), .val (.int p5), .val (.int p6), .val (.ref b468), .val (.ref b475), .val (.int (1 : Int32)), .val (.int (1 : Int32)), .val (.int (1 : Int32)), .val (.int (1 : Int32)), .unset] [(.int p3)])) _
    refine XS.iloadN X562.here hx rfl (hb hby at_229) rfl ?_
    show Steps p.tables e below (T562.setTop (mkF m 230 #[.val (.int p1), .val (.int p2), .val (.int p3), .val (.int p4), .val (.int p5), .val (.int p6), .val (.ref b468), .val (.ref b475), .val (.int (1 : Int32)), .val (.int (1 : Int32)), .val (.int (1 : Int32)), .val (.int (1 : Int32)), .unset] [(.int p3), (.int p3)])) _
    refine XS.icmpNo X562.here hx rfl (hb hby at_230) rfl (teq (rfl : p3 = p3)).2 ?_
    show Steps p.tables e below (T562.setTop (mkF m 233 #[.val (.int p1), .val (.int p2), .val (.int p3), .val (.int p4), .val (.int p5), .val (.int p6), .val (.ref b468), .val (.ref b475), .val (.int (1 : Int32)), .val (.int (1 : Int32)), .val (.int (1 : Int32)), .val (.int (1 : Int32)), .unset] [])) _
    refine XS.aload X562.here hx rfl (hb hby at_233) rfl rfl ?_
    show Steps p.tables e below (T562.setTop (mkF m 235 #[.val (.int p1), .val (.int p2), .val (.int p3), .val (.int p4), .val (.int p5), .val (.int p6), .val (.ref b468), .val (.ref b475), .val (.int (1 : Int32)), .val (.int (1 : Int32)), .val (.int (1 : Int32)), .val (.int (1 : Int32)), .unset] [(.ref b475)])) _
    refine XS.bipush X562.here hx rfl (hb hby at_235) ?_
    exact k
  obtain ⟨cq564, kq564, q564a, q564b, q564c⟩ := isOf hZ e562 Q536
  obtain ⟨_, _, ⟨T564, L564, k564, n564⟩, -, X564, ⟨Lc564, hQ564, l564, y564, z564⟩, st564⟩ := X562.virtualBack hx (y := (⟨"com/example/axiomwright/axiomwright/Arcs", "head", "(I)I"⟩ : MethodName)) (z := (⟨"com/example/axiomwright/axiomwright/Arcs", "head", "(I)I"⟩ : MethodName)) hown (mvT hZ (hw _ (List.mem_of_getElem? (i := 49) rfl))) (mvT hZ (hw _ (List.mem_of_getElem? (i := 50) rfl))) (notFace_of_selects (args := #[]) (mvT hZ (hw _ (List.mem_of_getElem? (i := 52) rfl)))) (mvT hZ (hw _ (List.mem_of_getElem? (i := 52) rfl))) (mvT hZ (hw _ (List.mem_of_getElem? (i := 51) rfl))) (by decide) (backOf (W := 0) (rm9_9_16 l Z a0 hw [] b475 b2_482 k2_482 p2 p4 p2 p4 p2 p4 p2 p4 p2 p4 (0 : Int32) (0 : Int32) (0 : Int32) (0 : Int32) (0 : Int32) (0 : Int32) T534.heap n0 Z534 Q539 Q541) hZ (hw _ (List.mem_of_getElem? (i := 53) rfl)) (hw _ (List.mem_of_getElem? (i := 2) rfl)) (by decide) (by decide)) q564a q564c (g := (mkF m 237 #[.val (.int p1), .val (.int p2), .val (.int p3), .val (.int p4), .val (.int p5), .val (.int p6), .val (.ref b468), .val (.ref b475), .val (.int (1 : Int32)), .val (.int (1 : Int32)), .val (.int (1 : Int32)), .val (.int (1 : Int32)), .unset] [(.int (9 : Int32)), (.ref b475)])) rfl (by rw [hml]; rfl) (Steps.refl _) (argsL := [(.int (9 : Int32))]) (rest := []) (lenOf pd_6 rfl) rfl (by show 2 * 0 + _ ≤ _; exact Nat.le_of_eq rfl) (hb hby at_237) (fun _ _ => ⟨rfl, e562, (by decide : 8 + 0 ≤ _), (by decide : 134 + 0 ≤ _)⟩)
  dsimp only [Pt.U, Pt.locs, Pt.cells, Pt.slots] at X564 l564 y564 z564 st564 hQ564
  subst l564 y564 z564
  obtain ⟨rfl, Nq564, e564⟩ := hQ564
  have N564 := Fr.app N562 Nq564
  refine own_go (A := _) (B := T564.setTop (mkF m 240 #[.val (.int p1), .val (.int p2), .val (.int p3), .val (.int p4), .val (.int p5), .val (.int p6), .val (.ref b468), .val (.ref b475), .val (.int (1 : Int32)), .val (.int (1 : Int32)), .val (.int (1 : Int32)), .val (.int (1 : Int32)), .unset] [(.int p4)])) (fun t k => st564.trans k) ?_
  refine own_go (A := T564.setTop (mkF m 240 #[.val (.int p1), .val (.int p2), .val (.int p3), .val (.int p4), .val (.int p5), .val (.int p6), .val (.ref b468), .val (.ref b475), .val (.int (1 : Int32)), .val (.int (1 : Int32)), .val (.int (1 : Int32)), .val (.int (1 : Int32)), .unset] [(.int p4)])) (B := T564.setTop (mkF m 246 #[.val (.int p1), .val (.int p2), .val (.int p3), .val (.int p4), .val (.int p5), .val (.int p6), .val (.ref b468), .val (.ref b475), .val (.int (1 : Int32)), .val (.int (1 : Int32)), .val (.int (1 : Int32)), .val (.int (1 : Int32)), .unset] [(.ref b475)])) (fun t k => ?_) ?_
  · show Steps p.tables e below (T564.setTop (mkF m 240 #[.val (.int p1), .val (.int p2), .val (.int p3), .val (.int p4), .val (.int p5), .val (.int p6), .val (.ref b468), .val (.ref b475), .val (.int (1 : Int32)), .val (.int (1 : Int32)), .val (.int (1 : Int32)), .val (.int (1 : Int32)), .unset] [(.int p4)])) _
    refine XS.iloadN X564.here hx rfl (hb hby at_240) rfl ?_
    show Steps p.tables e below (T564.setTop (mkF m 241 #[.val (.int p1), .val (.int p2), .val (.int p3), .val (.int p4), .val (.int p5), .val (.int p6), .val (.ref b468), .val (.ref b475), .val (.int (1 : Int32)), .val (.int (1 : Int32)), .val (.int (1 : Int32)), .val (.int (1 : Int32)), .unset] [(.int p4), (.int p4)])) _
    refine XS.icmpNo X564.here hx rfl (hb hby at_241) rfl (teq (rfl : p4 = p4)).2 ?_
    show Steps p.tables e below (T564.setTop (mkF m 244 #[.val (.int p1), .val (.int p2), .val (.int p3), .val (.int p4), .val (.int p5), .val (.int p6), .val (.ref b468), .val (.ref b475), .val (.int (1 : Int32)), .val (.int (1 : Int32)), .val (.int (1 : Int32)), .val (.int (1 : Int32)), .unset] [])) _
    refine XS.aload X564.here hx rfl (hb hby at_244) rfl rfl ?_
    exact k
  obtain ⟨cq566, kq566, q566a, q566b, q566c⟩ := isOf hZ e564 Q536
  obtain ⟨_, _, ⟨T566, L566, k566, n566⟩, -, X566, ⟨Lc566, hQ566, l566, y566, z566⟩, st566⟩ := X564.virtualBack hx (y := (⟨"com/example/axiomwright/axiomwright/Arcs", "size", "()I"⟩ : MethodName)) (z := (⟨"com/example/axiomwright/axiomwright/Arcs", "size", "()I"⟩ : MethodName)) hown (mvT hZ (hw _ (List.mem_of_getElem? (i := 27) rfl))) (mvT hZ (hw _ (List.mem_of_getElem? (i := 28) rfl))) (notFace_of_selects (args := #[]) (mvT hZ (hw _ (List.mem_of_getElem? (i := 30) rfl)))) (mvT hZ (hw _ (List.mem_of_getElem? (i := 30) rfl))) (mvT hZ (hw _ (List.mem_of_getElem? (i := 29) rfl))) (by decide) (backOf (W := 0) (rm5 l Z a0 hw [] b475 (10 : Int32) T534.heap n0 Z534 Q537) hZ (hw _ (List.mem_of_getElem? (i := 31) rfl)) (hw _ (List.mem_of_getElem? (i := 2) rfl)) (by decide) (by decide)) q566a q566c (g := (mkF m 246 #[.val (.int p1), .val (.int p2), .val (.int p3), .val (.int p4), .val (.int p5), .val (.int p6), .val (.ref b468), .val (.ref b475), .val (.int (1 : Int32)), .val (.int (1 : Int32)), .val (.int (1 : Int32)), .val (.int (1 : Int32)), .unset] [(.ref b475)])) rfl (by rw [hml]; rfl) (Steps.refl _) (argsL := []) (rest := []) (lenOf pd_5 rfl) rfl (by show 2 * 0 + _ ≤ _; exact Nat.le_of_eq rfl) (hb hby at_246) (fun _ _ => ⟨rfl, e564, (by decide : 8 + 0 ≤ _), (by decide : 134 + 0 ≤ _)⟩)
  dsimp only [Pt.U, Pt.locs, Pt.cells, Pt.slots] at X566 l566 y566 z566 st566 hQ566
  subst l566 y566 z566
  obtain ⟨rfl, Nq566, e566⟩ := hQ566
  have N566 := Fr.app N564 Nq566
  refine own_go (A := _) (B := T566.setTop (mkF m 249 #[.val (.int p1), .val (.int p2), .val (.int p3), .val (.int p4), .val (.int p5), .val (.int p6), .val (.ref b468), .val (.ref b475), .val (.int (1 : Int32)), .val (.int (1 : Int32)), .val (.int (1 : Int32)), .val (.int (1 : Int32)), .unset] [(.int (10 : Int32))])) (fun t k => st566.trans k) ?_
  refine own_go (A := T566.setTop (mkF m 249 #[.val (.int p1), .val (.int p2), .val (.int p3), .val (.int p4), .val (.int p5), .val (.int p6), .val (.ref b468), .val (.ref b475), .val (.int (1 : Int32)), .val (.int (1 : Int32)), .val (.int (1 : Int32)), .val (.int (1 : Int32)), .unset] [(.int (10 : Int32))])) (B := T566.setTop (mkF m 291 #[.val (.int p1), .val (.int p2), .val (.int p3), .val (.int p4), .val (.int p5), .val (.int p6), .val (.ref b468), .val (.ref b475), .val (.int (1 : Int32)), .val (.int (1 : Int32)), .val (.int (1 : Int32)), .val (.int (1 : Int32)), .val (.int (1 : Int32))] [(.int (1 : Int32))])) (fun t k => ?_) ?_
  · show Steps p.tables e below (T566.setTop (mkF m 249 #[.val (.int p1), .val (.int p2), .val (.int p3), .val (.int p4), .val (.int p5), .val (.int p6), .val (.ref b468), .val (.ref b475), .val (.int (1 : Int32)), .val (.int (1 : Int32)), .val (.int (1 : Int32)), .val (.int (1 : Int32)), .unset] [(.int (10 : Int32))])) _
    refine XS.bipush X566.here hx rfl (hb hby at_249) ?_
    show Steps p.tables e below (T566.setTop (mkF m 251 #[.val (.int p1), .val (.int p2), .val (.int p3), .val (.int p4), .val (.int p5), .val (.int p6), .val (.ref b468), .val (.ref b475), .val (.int (1 : Int32)), .val (.int (1 : Int32)), .val (.int (1 : Int32)), .val (.int (1 : Int32)), .unset] [(.int (10 : Int32)), (.int (10 : Int32))])) _
    refine XS.icmpNo X566.here hx rfl (hb hby at_251) rfl (teq (rfl : (10 : Int32) = (10 : Int32))).2 ?_
    show Steps p.tables e below (T566.setTop (mkF m 254 #[.val (.int p1), .val (.int p2), .val (.int p3), .val (.int p4), .val (.int p5), .val (.int p6), .val (.ref b468), .val (.ref b475), .val (.int (1 : Int32)), .val (.int (1 : Int32)), .val (.int (1 : Int32)), .val (.int (1 : Int32)), .unset] [])) _
    refine XS.iconst X566.here hx rfl (hb hby at_254) ?_
    show Steps p.tables e below (T566.setTop (mkF m 255 #[.val (.int p1), .val (.int p2), .val (.int p3), .val (.int p4), .val (.int p5), .val (.int p6), .val (.ref b468), .val (.ref b475), .val (.int (1 : Int32)), .val (.int (1 : Int32)), .val (.int (1 : Int32)), .val (.int (1 : Int32)), .unset] [(.int (1 : Int32))])) _
    refine XS.goto X566.here hx rfl (pc0 := 255) (pc' := 259) rfl (hb hby at_255) (by decide) (by decide) ?_
    show Steps p.tables e below (T566.setTop (mkF m 259 #[.val (.int p1), .val (.int p2), .val (.int p3), .val (.int p4), .val (.int p5), .val (.int p6), .val (.ref b468), .val (.ref b475), .val (.int (1 : Int32)), .val (.int (1 : Int32)), .val (.int (1 : Int32)), .val (.int (1 : Int32)), .unset] [(.int (1 : Int32))])) _
    refine XS.istore X566.here hx rfl (hb hby at_259) rfl (l' := #[.val (.int p1), .val (.int p2), .val (.int p3), .val (.int p4), .val (.int p5), .val (.int p6), .val (.ref b468), .val (.ref b475), .val (.int (1 : Int32)), .val (.int (1 : Int32)), .val (.int (1 : Int32)), .val (.int (1 : Int32)), .val (.int (1 : Int32))]) rfl ?_
    show Steps p.tables e below (T566.setTop (mkF m 261 #[.val (.int p1), .val (.int p2), .val (.int p3), .val (.int p4), .val (.int p5), .val (.int p6), .val (.ref b468), .val (.ref b475), .val (.int (1 : Int32)), .val (.int (1 : Int32)), .val (.int (1 : Int32)), .val (.int (1 : Int32)), .val (.int (1 : Int32))] [])) _
    refine XS.iload X566.here hx rfl (hb hby at_261) rfl ?_
    show Steps p.tables e below (T566.setTop (mkF m 263 #[.val (.int p1), .val (.int p2), .val (.int p3), .val (.int p4), .val (.int p5), .val (.int p6), .val (.ref b468), .val (.ref b475), .val (.int (1 : Int32)), .val (.int (1 : Int32)), .val (.int (1 : Int32)), .val (.int (1 : Int32)), .val (.int (1 : Int32))] [(.int (1 : Int32))])) _
    refine XS.ifNo X566.here hx rfl (hb hby at_263) rfl ((if0 _ _).trans (feq (by decide : ¬ ((1 : Int32) = (0 : Int32)))).1) ?_
    show Steps p.tables e below (T566.setTop (mkF m 266 #[.val (.int p1), .val (.int p2), .val (.int p3), .val (.int p4), .val (.int p5), .val (.int p6), .val (.ref b468), .val (.ref b475), .val (.int (1 : Int32)), .val (.int (1 : Int32)), .val (.int (1 : Int32)), .val (.int (1 : Int32)), .val (.int (1 : Int32))] [])) _
    refine XS.iload X566.here hx rfl (hb hby at_266) rfl ?_
    show Steps p.tables e below (T566.setTop (mkF m 268 #[.val (.int p1), .val (.int p2), .val (.int p3), .val (.int p4), .val (.int p5), .val (.int p6), .val (.ref b468), .val (.ref b475), .val (.int (1 : Int32)), .val (.int (1 : Int32)), .val (.int (1 : Int32)), .val (.int (1 : Int32)), .val (.int (1 : Int32))] [(.int (1 : Int32))])) _
    refine XS.ifNo X566.here hx rfl (hb hby at_268) rfl ((if0 _ _).trans (feq (by decide : ¬ ((1 : Int32) = (0 : Int32)))).1) ?_
    show Steps p.tables e below (T566.setTop (mkF m 271 #[.val (.int p1), .val (.int p2), .val (.int p3), .val (.int p4), .val (.int p5), .val (.int p6), .val (.ref b468), .val (.ref b475), .val (.int (1 : Int32)), .val (.int (1 : Int32)), .val (.int (1 : Int32)), .val (.int (1 : Int32)), .val (.int (1 : Int32))] [])) _
    refine XS.iload X566.here hx rfl (hb hby at_271) rfl ?_
    show Steps p.tables e below (T566.setTop (mkF m 273 #[.val (.int p1), .val (.int p2), .val (.int p3), .val (.int p4), .val (.int p5), .val (.int p6), .val (.ref b468), .val (.ref b475), .val (.int (1 : Int32)), .val (.int (1 : Int32)), .val (.int (1 : Int32)), .val (.int (1 : Int32)), .val (.int (1 : Int32))] [(.int (1 : Int32))])) _
    refine XS.ifNo X566.here hx rfl (hb hby at_273) rfl ((if0 _ _).trans (feq (by decide : ¬ ((1 : Int32) = (0 : Int32)))).1) ?_
    show Steps p.tables e below (T566.setTop (mkF m 276 #[.val (.int p1), .val (.int p2), .val (.int p3), .val (.int p4), .val (.int p5), .val (.int p6), .val (.ref b468), .val (.ref b475), .val (.int (1 : Int32)), .val (.int (1 : Int32)), .val (.int (1 : Int32)), .val (.int (1 : Int32)), .val (.int (1 : Int32))] [])) _
    refine XS.iload X566.here hx rfl (hb hby at_276) rfl ?_
    show Steps p.tables e below (T566.setTop (mkF m 278 #[.val (.int p1), .val (.int p2), .val (.int p3), .val (.int p4), .val (.int p5), .val (.int p6), .val (.ref b468), .val (.ref b475), .val (.int (1 : Int32)), .val (.int (1 : Int32)), .val (.int (1 : Int32)), .val (.int (1 : Int32)), .val (.int (1 : Int32))] [(.int (1 : Int32))])) _
    refine XS.ifNo X566.here hx rfl (hb hby at_278) rfl ((if0 _ _).trans (feq (by decide : ¬ ((1 : Int32) = (0 : Int32)))).1) ?_
    show Steps p.tables e below (T566.setTop (mkF m 281 #[.val (.int p1), .val (.int p2), .val (.int p3), .val (.int p4), .val (.int p5), .val (.int p6), .val (.ref b468), .val (.ref b475), .val (.int (1 : Int32)), .val (.int (1 : Int32)), .val (.int (1 : Int32)), .val (.int (1 : Int32)), .val (.int (1 : Int32))] [])) _
    refine XS.iload X566.here hx rfl (hb hby at_281) rfl ?_
    show Steps p.tables e below (T566.setTop (mkF m 283 #[.val (.int p1), .val (.int p2), .val (.int p3), .val (.int p4), .val (.int p5), .val (.int p6), .val (.ref b468), .val (.ref b475), .val (.int (1 : Int32)), .val (.int (1 : Int32)), .val (.int (1 : Int32)), .val (.int (1 : Int32)), .val (.int (1 : Int32))] [(.int (1 : Int32))])) _
    refine XS.ifNo X566.here hx rfl (hb hby at_283) rfl ((if0 _ _).trans (feq (by decide : ¬ ((1 : Int32) = (0 : Int32)))).1) ?_
    show Steps p.tables e below (T566.setTop (mkF m 286 #[.val (.int p1), .val (.int p2), .val (.int p3), .val (.int p4), .val (.int p5), .val (.int p6), .val (.ref b468), .val (.ref b475), .val (.int (1 : Int32)), .val (.int (1 : Int32)), .val (.int (1 : Int32)), .val (.int (1 : Int32)), .val (.int (1 : Int32))] [])) _
    refine XS.iconst X566.here hx rfl (hb hby at_286) ?_
    show Steps p.tables e below (T566.setTop (mkF m 287 #[.val (.int p1), .val (.int p2), .val (.int p3), .val (.int p4), .val (.int p5), .val (.int p6), .val (.ref b468), .val (.ref b475), .val (.int (1 : Int32)), .val (.int (1 : Int32)), .val (.int (1 : Int32)), .val (.int (1 : Int32)), .val (.int (1 : Int32))] [(.int (1 : Int32))])) _
    refine XS.goto X566.here hx rfl (pc0 := 287) (pc' := 291) rfl (hb hby at_287) (by decide) (by decide) ?_
    exact k
  obtain ⟨fs, hr, hrun, hended, hW, hsame⟩ := X566.leave (v := some (.int (1 : Int32))) (fun h => by rw [Bd.returns] at h; cases h)
  refine ⟨_, _, ?_, hrun, hended, _, _, rfl, ?_, ⟨_, rfl⟩, hW, hsame.mono (by decide) (by decide)⟩
  · show Steps p.tables e below (T566.setTop (mkF m 291 #[.val (.int p1), .val (.int p2), .val (.int p3), .val (.int p4), .val (.int p5), .val (.int p6), .val (.ref b468), .val (.ref b475), .val (.int (1 : Int32)), .val (.int (1 : Int32)), .val (.int (1 : Int32)), .val (.int (1 : Int32)), .val (.int (1 : Int32))] [(.int (1 : Int32))])) _
    exact retN X566 hx (t := .boolean) Bd.returns (by simp) (hb hby at_291) hr
  · show Qrm0 Z p1 p2 p3 p4 p5 p6 h0 n0 _ T566.heap _
    rw [e566]
    exact ⟨rfl, N566⟩
set_option maxRecDepth 65536 in
set_option maxHeartbeats 40000000 in
theorem comes_1 {Post : Tables → Env → Array Value → State → Outcome → State → Prop} (hpost : ∀ tb e args s v u, (limb_1_1.after args s (.returned v) u = true ∧ limb_1_2.after args s (.returned v) u = true ∧ True) → FrameEnd s (.returned v) u (Jvm.fieldLocs frame_1_writes args s ++ Jvm.arrayLocs frame_1_arrays args s ++ Jvm.staticLocs frame_1_statics s) 24 384 → Post tb e args s (.returned v) u) :
    ArmFor flags0 classFile x code maxLocals ret World_1 tables_1 room_1 Calls_1 rest_1 Pre_1 Post := by
  intro l hfl _ _ p e ha hc hk s m args below hf hA hF happ hP
  obtain ⟨hcalls, hrest, hpre⟩ := hP
  obtain ⟨-, -, -, hnamed, -, -, -, hat⟩ := (Spec.applies_iff hf).mp happ
  obtain ⟨hg, hn⟩ := and_e (Cond.before_iff.mp (show (Jvm.Cond.and given_1 narrow_1).before args s = true from hpre))
  obtain ⟨hg0, hgs⟩ := and_e hg
  obtain ⟨w0, w1, w2, w3, w4, w5, rfl⟩ : ∃ w0 w1 w2 w3 w4 w5 : Value, args = #[w0, w1, w2, w3, w4, w5] := by
    have hs : args.size = 6 := by simpa [Cond.value, given_1] using hg0
    obtain ⟨L⟩ := args
    match L, hs with
    | [w0, w1, w2, w3, w4, w5], _ => exact ⟨w0, w1, w2, w3, w4, w5, rfl⟩
  have hw := fun d (hd : d ∈ tables_1) => atoms_spec (ws := Jvm.Cond.code x code maxLocals ret :: tables_1) hat d (List.mem_cons_of_mem _ hd)
  have hfit : Fit s := fun {y c} hc i hi => by
    obtain ⟨ha, rfl⟩ := Array.getElem?_eq_some_iff.mp hc
    have q := List.all_eq_true.mp ((Array.all_eq_true_iff_forall_mem.mp hF) _ (Array.getElem_mem ha)) i (List.mem_range.mpr hi)
    simpa [Array.getElem?_eq_getElem hi] using q
  obtain ⟨gi0, gr0⟩ := and_e hgs
  obtain ⟨i0, ei0⟩ := is_v gi0
  obtain rfl : w0 = (.int i0) := Option.some.inj ei0
  obtain ⟨gi1, gr1⟩ := and_e gr0
  obtain ⟨i1, ei1⟩ := is_v gi1
  obtain rfl : w1 = (.int i1) := Option.some.inj ei1
  obtain ⟨gi2, gr2⟩ := and_e gr1
  obtain ⟨i2, ei2⟩ := is_v gi2
  obtain rfl : w2 = (.int i2) := Option.some.inj ei2
  obtain ⟨gi3, gr3⟩ := and_e gr2
  obtain ⟨i3, ei3⟩ := is_v gi3
  obtain rfl : w3 = (.int i3) := Option.some.inj ei3
  obtain ⟨gi4, gr4⟩ := and_e gr3
  obtain ⟨i4, ei4⟩ := is_v gi4
  obtain rfl : w4 = (.int i4) := Option.some.inj ei4
  obtain ⟨i5, ei5⟩ := is_v gr4
  obtain rfl : w5 = (.int i5) := Option.some.inj ei5
  obtain ⟨n, o, h1, h2, h3, _, L, rfl, ⟨hv, N⟩, hq⟩ := rm0 l s _ hw tables_1 i0 i1 i2 i3 i4 i5  s.heap s.heap.size (Nat.le_refl _)  p e ha hc hk s m _ below hf ((Spec.applies_iff_loose hf).mp happ).1 ⟨rfl, State.Warmed39.refl s, rfl⟩ trivial
  obtain rfl := hv
  refine ⟨n, _, h1, h2, h3, hpost _ _ _ _ _ _ ⟨Cond.after_iff.mpr rfl, Cond.after_iff.mpr (eq_i res_at (Term.int_eval (1)) rfl), trivial⟩ ⟨hq.1, hq.2.1, (hq.2.2.sift fun y hy => Or.inr (N y hy)).mono (by decide) (by decide)⟩⟩
theorem main_1_1 : Claimed_1_1 := comes_1 fun _ _ _ _ _ _ h hF => ⟨h.1, hF⟩
theorem main_1_2 : Claimed_1_2 := comes_1 fun _ _ _ _ _ _ h hF => ⟨h.2.1, hF⟩
end Jvm.Pilot.@@N@@
namespace Jvm.Pilot.@@N@@
open Jvm Jvm.ClassFile Sem Op Lib Jvm.Free Jvm.Stand Jvm.Pilot.@@N@@.Jvm.D
/-! MADE BY PROGRAM (witnessworld.py) out of the Statement's table words and the real class files: 12 classes; the members and pool entries that the words name. The judged class is class 1, her method 1. -/
namespace start1
open Jvm.ClassFile
def u (s : String) : CpInfo := .utf8 (stringToUtf16 s)
/-- a pool by its gaps: so many unusable entries, then the entry; so many at the end -/
def gap : Nat → List CpInfo → List CpInfo
  | 0, r => r
  | n + 1, r => .unusable :: gap n r
def poolList (es : List (Nat × CpInfo)) (last : Nat) : List CpInfo := es.foldr (fun e r => gap e.1 (e.2 :: r)) (gap last [])
def pool (es : List (Nat × CpInfo)) (last : Nat) : Array CpInfo := ⟨poolList es last⟩
def fileOf (pool : Array CpInfo) (this : Nat) (attrs : Array Attribute := #[]) (ms : Array MethodInfo := #[]) (fl : Nat := 33) (sup : Nat := 0) (ifs : Array Nat := #[]) (fds : Array FieldInfo := #[]) : ClassFile where
  minorVersion := 0
  majorVersion := 65
  constantPool := pool
  accessFlags := fl
  thisClass := this
  superClass := sup
  interfaces := ifs
  fields := fds
  methods := ms
  attributes := attrs
def plain (name : String) (sup : Option ClassId) : Class where
  name := name
  kind := .ordinary
  loader := none
  accessFlags := 33
  super := sup
  interfaces := #[]
  cf := none
  fields := #[]
  methods := #[]
  instanceTypes := #[]
  staticTypes := #[]
  resolved := #[]
  callSites := []
  init := .initialized
  statics := none
  mirror := none

def pool0 : Array CpInfo := pool [(5, u "<init>"), (0, u "()V"), (1, .class_ 10), (1, u "java/lang/Object")] 113

def k0c0 : Code := { maxStack := 0, maxLocals := 1, code := object_method_1_code, exceptionTable := #[], attributes := #[] }
def k0m0 : Method := { name := "<init>", desc := "()V", sig := { parameters := [], returnType := none }, accessFlags := 1, code := some k0c0 }
/-- java/lang/Object -/
def k0 : Class := { plain "java/lang/Object" none with
  accessFlags := 33
  interfaces := #[]
  cf := some (fileOf pool0 8 #[] #[{ accessFlags := 1, nameIndex := 5, descriptorIndex := 6, attributes := #[] }] 33 0 #[] #[])
  fields := #[]
  methods := #[k0m0]
  instanceTypes := #[]
  staticTypes := #[]
  resolved := Array.replicate 124 none
  statics := none }

def pool1 : Array CpInfo := pool [(2, .class_ 4), (0, .nameAndType 5 6), (0, u "java/lang/Object"), (0, u "<init>"), (0, u "()V"), (0, .class_ 8), (0, u "com/example/axiomwright/axiomwright/Arcs"), (0, .methodref 7 3), (0, .methodref 7 11), (0, .nameAndType 12 13), (0, u "add"), (0, u "(II)V"), (0, .methodref 7 15), (0, .nameAndType 16 17), (0, u "addAll"), (0, u "(Lcom/example/axiomwright/axiomwright/Arcs;)V"), (0, .methodref 7 19), (0, .nameAndType 20 21), (0, u "size"), (0, u "()I"), (0, .methodref 7 23), (0, .nameAndType 24 25), (0, u "tail"), (0, u "(I)I"), (0, .methodref 7 27), (0, .nameAndType 28 25), (0, u "head"), (0, .class_ 30), (0, u "com/example/axiomwright/axiomwright/ArcsAddPinLaw"), (2, u "law"), (0, u "(IIIIII)Z")] 3

def k1m0 : Method := { name := "<init>", desc := "()V", sig := { parameters := [], returnType := none }, accessFlags := 2, code := none }
def k1c1 : Code := { maxStack := 3, maxLocals := 13, code := code, exceptionTable := #[], attributes := #[] }
def k1m1 : Method := { name := "law", desc := "(IIIIII)Z", sig := { parameters := [.int, .int, .int, .int, .int, .int], returnType := some .boolean }, accessFlags := 9, code := some k1c1 }
/-- com/example/axiomwright/axiomwright/ArcsAddPinLaw -/
def k1 : Class := { plain "com/example/axiomwright/axiomwright/ArcsAddPinLaw" (some 0) with
  accessFlags := 49
  interfaces := #[]
  cf := some (fileOf pool1 29 #[] #[{ accessFlags := 2, nameIndex := 5, descriptorIndex := 6, attributes := #[] }, { accessFlags := 9, nameIndex := 33, descriptorIndex := 34, attributes := #[] }] 49 2 #[] #[])
  fields := #[]
  methods := #[k1m0, k1m1]
  instanceTypes := #[]
  staticTypes := #[]
  resolved := Array.replicate 38 none
  statics := none }

def pool2 : Array CpInfo := pool [(1, .methodref 2 3), (0, .class_ 4), (0, .nameAndType 5 6), (0, u "java/lang/Object"), (0, u "<init>"), (0, u "()V"), (0, .fieldref 8 9), (0, .class_ 10), (0, .nameAndType 11 12), (0, u "com/example/axiomwright/axiomwright/Arcs"), (0, u "from"), (0, u "[I"), (0, .fieldref 8 14), (0, .nameAndType 15 12), (0, u "to"), (0, .fieldref 8 17), (0, .nameAndType 18 19), (0, u "size"), (0, u "I"), (0, .methodref 21 22), (0, .class_ 23), (0, .nameAndType 24 25), (0, u "java/util/Arrays"), (0, u "copyOf"), (0, u "([II)[I"), (0, .methodref 8 27), (0, .nameAndType 28 29), (0, u "add"), (0, u "(II)V"), (5, u "addAll"), (0, u "(Lcom/example/axiomwright/axiomwright/Arcs;)V"), (0, u "()I"), (0, u "tail"), (0, u "(I)I"), (0, u "head")] 2

def k2c0 : Code := { maxStack := 2, maxLocals := 1, code := prog_2_method_1_code, exceptionTable := #[], attributes := #[] }
def k2m0 : Method := { name := "<init>", desc := "()V", sig := { parameters := [], returnType := none }, accessFlags := 0, code := some k2c0 }
def k2c1 : Code := { maxStack := 5, maxLocals := 3, code := prog_2_method_3_code, exceptionTable := #[], attributes := #[] }
def k2m1 : Method := { name := "add", desc := "(II)V", sig := { parameters := [.int, .int], returnType := none }, accessFlags := 0, code := some k2c1 }
def k2c2 : Code := { maxStack := 4, maxLocals := 3, code := prog_2_method_4_code, exceptionTable := #[], attributes := #[] }
def k2m2 : Method := { name := "addAll", desc := "(Lcom/example/axiomwright/axiomwright/Arcs;)V", sig := { parameters := [(.object "com/example/axiomwright/axiomwright/Arcs")], returnType := none }, accessFlags := 0, code := some k2c2 }
def k2c3 : Code := { maxStack := 1, maxLocals := 1, code := prog_2_method_5_code, exceptionTable := #[], attributes := #[] }
def k2m3 : Method := { name := "size", desc := "()I", sig := { parameters := [], returnType := some .int }, accessFlags := 0, code := some k2c3 }
def k2c4 : Code := { maxStack := 2, maxLocals := 2, code := prog_2_method_6_code, exceptionTable := #[], attributes := #[] }
def k2m4 : Method := { name := "tail", desc := "(I)I", sig := { parameters := [.int], returnType := some .int }, accessFlags := 0, code := some k2c4 }
def k2c5 : Code := { maxStack := 2, maxLocals := 2, code := prog_2_method_7_code, exceptionTable := #[], attributes := #[] }
def k2m5 : Method := { name := "head", desc := "(I)I", sig := { parameters := [.int], returnType := some .int }, accessFlags := 0, code := some k2c5 }
/-- com/example/axiomwright/axiomwright/Arcs -/
def k2 : Class := { plain "com/example/axiomwright/axiomwright/Arcs" (some 0) with
  accessFlags := 48
  interfaces := #[]
  cf := some (fileOf pool2 8 #[] #[{ accessFlags := 0, nameIndex := 5, descriptorIndex := 6, attributes := #[] }, { accessFlags := 0, nameIndex := 28, descriptorIndex := 29, attributes := #[] }, { accessFlags := 0, nameIndex := 35, descriptorIndex := 36, attributes := #[] }, { accessFlags := 0, nameIndex := 18, descriptorIndex := 37, attributes := #[] }, { accessFlags := 0, nameIndex := 38, descriptorIndex := 39, attributes := #[] }, { accessFlags := 0, nameIndex := 40, descriptorIndex := 39, attributes := #[] }] 48 2 #[] #[{ accessFlags := 2, nameIndex := 11, descriptorIndex := 12, attributes := #[] }, { accessFlags := 2, nameIndex := 15, descriptorIndex := 12, attributes := #[] }, { accessFlags := 2, nameIndex := 18, descriptorIndex := 19, attributes := #[] }])
  fields := #[{ name := "from", type := (.array .int), accessFlags := 2, slot := 0, constantValue := 0 }, { name := "to", type := (.array .int), accessFlags := 2, slot := 1, constantValue := 0 }, { name := "size", type := .int, accessFlags := 2, slot := 2, constantValue := 0 }]
  methods := #[k2m0, k2m1, k2m2, k2m3, k2m4, k2m5]
  instanceTypes := #[(.array .int), (.array .int), .int]
  staticTypes := #[]
  resolved := Array.replicate 43 none
  statics := none }

def pool3 : Array CpInfo := pool [(2, .class_ 4), (1, u "java/lang/Object"), (0, u "<init>"), (0, u "()V"), (7, .class_ 16), (1, u "java/util/Arrays"), (57, .class_ 76), (1, u "java/util/Arrays$NaturalOrder"), (36, .class_ 115), (1, u "java/util/Arrays$LegacyMergeSort"), (1, u "Z"), (32, .methodref 151 152), (0, .class_ 153), (0, .nameAndType 154 155), (0, u "java/lang/System"), (0, u "arraycopy"), (0, u "(Ljava/lang/Object;ILjava/lang/Object;II)V"), (146, u "copyOf"), (1, .methodref 305 306), (0, .class_ 307), (0, .nameAndType 308 309), (0, u "java/lang/Math"), (0, u "min"), (0, u "(II)I"), (65, .class_ 376), (0, u "java/util/Arrays$ArrayList"), (68, u "$assertionsDisabled"), (269, u "MIN_ARRAY_SORT_GRAN"), (0, u "I"), (2, u "INSERTIONSORT_THRESHOLD"), (151, u "([II)[I"), (103, .class_ 976), (0, u "java/util/Arrays$ArrayItr")] 52

def k3m0 : Method := { name := "<init>", desc := "()V", sig := { parameters := [], returnType := none }, accessFlags := 2, code := none }
def k3c1 : Code := { maxStack := 6, maxLocals := 3, code := jdk_65_method_123_code, exceptionTable := #[], attributes := #[] }
def k3m1 : Method := { name := "copyOf", desc := "([II)[I", sig := { parameters := [(.array .int), .int], returnType := some (.array .int) }, accessFlags := 9, code := some k3c1 }
/-- java/util/Arrays -/
def k3 : Class := { plain "java/util/Arrays" (some 0) with
  accessFlags := 49
  interfaces := #[]
  cf := some (fileOf pool3 14 #[.nestMembers #[975, 375, 113, 74]] #[{ accessFlags := 2, nameIndex := 5, descriptorIndex := 6, attributes := #[] }, { accessFlags := 9, nameIndex := 302, descriptorIndex := 871, attributes := #[] }] 49 2 #[] #[{ accessFlags := 26, nameIndex := 715, descriptorIndex := 716, attributes := #[] }, { accessFlags := 26, nameIndex := 719, descriptorIndex := 716, attributes := #[] }, { accessFlags := 4120, nameIndex := 445, descriptorIndex := 117, attributes := #[] }])
  fields := #[{ name := "MIN_ARRAY_SORT_GRAN", type := .int, accessFlags := 26, slot := 0, constantValue := 0 }, { name := "INSERTIONSORT_THRESHOLD", type := .int, accessFlags := 26, slot := 1, constantValue := 0 }, { name := "$assertionsDisabled", type := .boolean, accessFlags := 4120, slot := 2, constantValue := 0 }]
  methods := #[k3m0, k3m1]
  instanceTypes := #[]
  staticTypes := #[.int, .int, .boolean]
  resolved := Array.replicate 1029 none
  statics := none }

def pool4 : Array CpInfo := pool [(1, .class_ 2), (0, u "java/lang/Math"), (1, .class_ 6), (1, u "java/lang/Object"), (0, u "<init>"), (0, u "()V"), (89, .class_ 100), (1, u "java/lang/Math$RandomNumberGeneratorHolder"), (71, u "negativeZeroFloatBits"), (0, u "J"), (2, u "negativeZeroDoubleBits"), (24, u "min"), (43, u "$assertionsDisabled"), (0, u "Z"), (88, u "(II)I"), (2, u "twoToTheDoubleScaleDown"), (0, u "D"), (4, u "twoToTheDoubleScaleUp"), (9, u "E"), (3, u "PI"), (2, u "TAU"), (2, u "DEGREES_TO_RADIANS"), (0, u "RADIANS_TO_DEGREES")] 94

def k4m0 : Method := { name := "<init>", desc := "()V", sig := { parameters := [], returnType := none }, accessFlags := 2, code := none }
def k4c1 : Code := { maxStack := 2, maxLocals := 2, code := jdk_29_method_69_code, exceptionTable := #[], attributes := #[] }
def k4m1 : Method := { name := "min", desc := "(II)I", sig := { parameters := [.int, .int], returnType := some .int }, accessFlags := 9, code := some k4c1 }
/-- java/lang/Math -/
def k4 : Class := { plain "java/lang/Math" (some 0) with
  accessFlags := 49
  interfaces := #[]
  cf := some (fileOf pool4 1 #[.nestMembers #[98]] #[{ accessFlags := 2, nameIndex := 7, descriptorIndex := 8, attributes := #[] }, { accessFlags := 9, nameIndex := 201, descriptorIndex := 335, attributes := #[] }] 49 4 #[] #[{ accessFlags := 25, nameIndex := 354, descriptorIndex := 339, attributes := #[] }, { accessFlags := 25, nameIndex := 358, descriptorIndex := 339, attributes := #[] }, { accessFlags := 25, nameIndex := 361, descriptorIndex := 339, attributes := #[] }, { accessFlags := 26, nameIndex := 364, descriptorIndex := 339, attributes := #[] }, { accessFlags := 26, nameIndex := 365, descriptorIndex := 339, attributes := #[] }, { accessFlags := 26, nameIndex := 172, descriptorIndex := 173, attributes := #[] }, { accessFlags := 26, nameIndex := 176, descriptorIndex := 173, attributes := #[] }, { accessFlags := 8, nameIndex := 344, descriptorIndex := 339, attributes := #[] }, { accessFlags := 8, nameIndex := 338, descriptorIndex := 339, attributes := #[] }, { accessFlags := 4120, nameIndex := 245, descriptorIndex := 246, attributes := #[] }])
  fields := #[{ name := "E", type := .double, accessFlags := 25, slot := 0, constantValue := 0 }, { name := "PI", type := .double, accessFlags := 25, slot := 1, constantValue := 0 }, { name := "TAU", type := .double, accessFlags := 25, slot := 2, constantValue := 0 }, { name := "DEGREES_TO_RADIANS", type := .double, accessFlags := 26, slot := 3, constantValue := 0 }, { name := "RADIANS_TO_DEGREES", type := .double, accessFlags := 26, slot := 4, constantValue := 0 }, { name := "negativeZeroFloatBits", type := .long, accessFlags := 26, slot := 5, constantValue := 0 }, { name := "negativeZeroDoubleBits", type := .long, accessFlags := 26, slot := 6, constantValue := 0 }, { name := "twoToTheDoubleScaleUp", type := .double, accessFlags := 8, slot := 7, constantValue := 0 }, { name := "twoToTheDoubleScaleDown", type := .double, accessFlags := 8, slot := 8, constantValue := 0 }, { name := "$assertionsDisabled", type := .boolean, accessFlags := 4120, slot := 9, constantValue := 0 }]
  methods := #[k4m0, k4m1]
  instanceTypes := #[]
  staticTypes := #[.double, .double, .double, .double, .double, .long, .long, .double, .double, .boolean]
  resolved := Array.replicate 460 none
  statics := none }

def pool5 : Array CpInfo := pool [(2, .class_ 4), (1, u "java/lang/Object"), (0, u "<init>"), (0, u "()V"), (1, .class_ 10), (1, u "java/lang/System"), (0, u "allowSecurityManager"), (0, u "I"), (16, u "cons"), (0, u "Ljava/io/Console;"), (77, .class_ 110), (1, u "java/lang/System$CallersHolder"), (43, u "initialErrStream"), (0, u "Ljava/io/PrintStream;"), (19, u "security"), (0, u "Ljava/lang/SecurityManager;"), (31, .class_ 209), (0, u "java/lang/System$1"), (7, u "props"), (0, u "Ljava/util/Properties;"), (2, u "lineSeparator"), (0, u "Ljava/lang/String;"), (96, .class_ 321), (1, u "java/lang/System$LoggerFinder"), (5, .class_ 328), (0, u "java/lang/System$Logger"), (67, u "err"), (2, u "out"), (91, u "notSupportedJnuEncoding"), (15, u "in"), (17, u "initialIn"), (0, u "Ljava/io/InputStream;"), (35, u "bootLayer"), (0, u "Ljava/lang/ModuleLayer;"), (99, .class_ 664), (0, u "java/lang/System$2"), (9, u "NEVER"), (2, u "MAYBE"), (49, u "arraycopy"), (0, u "(Ljava/lang/Object;ILjava/lang/Object;II)V"), (72, .class_ 802), (0, u "java/lang/System$Logger$Level")] 31

def k5m0 : Method := { name := "<init>", desc := "()V", sig := { parameters := [], returnType := none }, accessFlags := 2, code := none }
def k5m1 : Method := { name := "arraycopy", desc := "(Ljava/lang/Object;ILjava/lang/Object;II)V", sig := { parameters := [(.object "java/lang/Object"), .int, (.object "java/lang/Object"), .int, .int], returnType := none }, accessFlags := 265, code := none }
/-- java/lang/System -/
def k5 : Class := { plain "java/lang/System" (some 0) with
  accessFlags := 49
  interfaces := #[]
  cf := some (fileOf pool5 8 #[.nestMembers #[319, 327, 801, 108, 663, 208]] #[{ accessFlags := 2, nameIndex := 5, descriptorIndex := 6, attributes := #[] }, { accessFlags := 265, nameIndex := 727, descriptorIndex := 728, attributes := #[] }] 49 2 #[] #[{ accessFlags := 25, nameIndex := 507, descriptorIndex := 526, attributes := #[] }, { accessFlags := 25, nameIndex := 399, descriptorIndex := 155, attributes := #[] }, { accessFlags := 25, nameIndex := 396, descriptorIndex := 155, attributes := #[] }, { accessFlags := 10, nameIndex := 525, descriptorIndex := 526, attributes := #[] }, { accessFlags := 26, nameIndex := 674, descriptorIndex := 12, attributes := #[] }, { accessFlags := 26, nameIndex := 677, descriptorIndex := 12, attributes := #[] }, { accessFlags := 10, nameIndex := 11, descriptorIndex := 12, attributes := #[] }, { accessFlags := 74, nameIndex := 175, descriptorIndex := 176, attributes := #[] }, { accessFlags := 10, nameIndex := 491, descriptorIndex := 222, attributes := #[] }, { accessFlags := 74, nameIndex := 29, descriptorIndex := 30, attributes := #[] }, { accessFlags := 74, nameIndex := 154, descriptorIndex := 155, attributes := #[] }, { accessFlags := 10, nameIndex := 217, descriptorIndex := 218, attributes := #[] }, { accessFlags := 10, nameIndex := 221, descriptorIndex := 222, attributes := #[] }, { accessFlags := 8, nameIndex := 562, descriptorIndex := 563, attributes := #[] }])
  fields := #[{ name := "in", type := (.object "java/io/InputStream"), accessFlags := 25, slot := 0, constantValue := 0 }, { name := "out", type := (.object "java/io/PrintStream"), accessFlags := 25, slot := 1, constantValue := 0 }, { name := "err", type := (.object "java/io/PrintStream"), accessFlags := 25, slot := 2, constantValue := 0 }, { name := "initialIn", type := (.object "java/io/InputStream"), accessFlags := 10, slot := 3, constantValue := 0 }, { name := "NEVER", type := .int, accessFlags := 26, slot := 4, constantValue := 0 }, { name := "MAYBE", type := .int, accessFlags := 26, slot := 5, constantValue := 0 }, { name := "allowSecurityManager", type := .int, accessFlags := 10, slot := 6, constantValue := 0 }, { name := "security", type := (.object "java/lang/SecurityManager"), accessFlags := 74, slot := 7, constantValue := 0 }, { name := "notSupportedJnuEncoding", type := (.object "java/lang/String"), accessFlags := 10, slot := 8, constantValue := 0 }, { name := "cons", type := (.object "java/io/Console"), accessFlags := 74, slot := 9, constantValue := 0 }, { name := "initialErrStream", type := (.object "java/io/PrintStream"), accessFlags := 74, slot := 10, constantValue := 0 }, { name := "props", type := (.object "java/util/Properties"), accessFlags := 10, slot := 11, constantValue := 0 }, { name := "lineSeparator", type := (.object "java/lang/String"), accessFlags := 10, slot := 12, constantValue := 0 }, { name := "bootLayer", type := (.object "java/lang/ModuleLayer"), accessFlags := 8, slot := 13, constantValue := 0 }]
  methods := #[k5m0, k5m1]
  instanceTypes := #[]
  staticTypes := #[(.object "java/io/InputStream"), (.object "java/io/PrintStream"), (.object "java/io/PrintStream"), (.object "java/io/InputStream"), .int, .int, .int, (.object "java/lang/SecurityManager"), (.object "java/lang/String"), (.object "java/io/Console"), (.object "java/io/PrintStream"), (.object "java/util/Properties"), (.object "java/lang/String"), (.object "java/lang/ModuleLayer")]
  resolved := Array.replicate 834 none
  statics := none }

def pool6 : Array CpInfo := pool [(1, u "java/lang/Cloneable"), (0, .class_ 1), (0, u "java/lang/Object"), (0, .class_ 3)] 3

/-- java/lang/Cloneable -/
def k6 : Class := { plain "java/lang/Cloneable" (some 0) with
  accessFlags := 1537
  interfaces := #[]
  cf := some (fileOf pool6 2 #[] #[] 1537 4 #[] #[])
  fields := #[]
  methods := #[]
  instanceTypes := #[]
  staticTypes := #[]
  resolved := Array.replicate 8 none
  statics := none }

def pool7 : Array CpInfo := pool [(1, u "java/io/Serializable"), (0, .class_ 1), (0, u "java/lang/Object"), (0, .class_ 3)] 3

/-- java/io/Serializable -/
def k7 : Class := { plain "java/io/Serializable" (some 0) with
  accessFlags := 1537
  interfaces := #[]
  cf := some (fileOf pool7 2 #[] #[] 1537 4 #[] #[])
  fields := #[]
  methods := #[]
  instanceTypes := #[]
  staticTypes := #[]
  resolved := Array.replicate 8 none
  statics := none }

/-- the primitive byte -/
def k8 : Class := { plain "byte" none with kind := .primitive 'B', accessFlags := 0x411 }
/-- [B -/
def k9 : Class := { plain "[B" (some 0) with kind := .array 8 .byte, interfaces := #[6, 7], accessFlags := 1041 }

/-- the primitive int -/
def k10 : Class := { plain "int" none with kind := .primitive 'I', accessFlags := 0x411 }
/-- [I -/
def k11 : Class := { plain "[I" (some 0) with kind := .array 10 .int, interfaces := #[6, 7], accessFlags := 1041 }

def heap : Heap := #[]
def classes : Array Class := #[k0, k1, k2, k3, k4, k5, k6, k7, k8, k9, k10, k11]
def interned : List (Array UInt16 × Addr) := []
def slotsUsed : Nat := 0
def theMethod : MethodId := ⟨1, 1⟩
def args0 : Array Value := #[.int 1, .int 2, .int 3, .int 4, .int 5, .int 6]
def aboutOver (below : List Frame) : State where
  vm := { classes := classes, interned := interned.toArray }
  heap := heap
  slotsUsed := slotsUsed
  threads := #[{ frames := .invoking theMethod args0 :: below }]
def below0 : List Frame := [.native { method := ⟨0, 0⟩, args := #[] }]
def about1 : State := aboutOver below0
def p0 : Program := .bare "" "" ""
def e0 : Env := launch0.env 0 0 0
theorem w_frames : about1.frames = Frame.invoking theMethod args0 :: below0 := rfl
set_option maxRecDepth 65536 in
theorem w_args : argsFit about1.vm theMethod args0 = true := by decide +kernel
set_option maxRecDepth 65536 in
theorem w_heap : heapFits about1 = true := by decide +kernel
set_option maxRecDepth 65536 in
theorem w_runnable : about1.curStatus? = some .runnable := by decide +kernel
set_option maxRecDepth 65536 in
theorem w_alone : about1.alone = true := by decide +kernel
set_option maxRecDepth 65536 in
theorem w_named : about1.methodNamed? x = some theMethod := by decide +kernel
set_option maxRecDepth 65536 in
theorem w_hears : about1.hears theMethod below0 = true := by decide +kernel
set_option maxRecDepth 65536 in
theorem w_ripe : about1.ripe theMethod args0 below0 = true := by decide +kernel
theorem w_running : about1.status = .running := rfl
set_option maxRecDepth 65536 in
theorem w_room : about1.hasRoom e0.platform room_1 = true :=
  launch0.hasRoom_least _ room_1 (by decide +kernel) (by decide +kernel) (by decide +kernel) (by decide +kernel) (by decide +kernel) (by decide +kernel)
theorem allAtoms_all (ts : List Jvm.Cond) (a : Array Jvm.Value) (st : Jvm.State) : (allAtoms ts).before a st = ts.all (fun c => c.before a st) := by
  induction ts with
  | nil => rfl
  | cons c t ih =>
    show (Jvm.Cond.and c (allAtoms t)).before a st = _
    rw [Jvm.Cond.before_and, ih, List.all_cons]
def words1 : List Jvm.Cond := Jvm.Cond.code x code maxLocals ret :: tables_1
/-- a 'code' word, met by the world's own term for the bytes: nothing is compared byte by byte -/
theorem code_word {y : MethodName} {bytes : ByteArray} {mx : Nat} {rt : Option FieldType} {a : Array Value} {s : State} {m : MethodId} {meth : Method} {c : Code} (h1 : s.methodNamed? y = some m) (h2 : s.vm.method? m = some meth) (h3 : meth.code = some c) (h4 : c.code = bytes)
    (h5 : (c.maxLocals == mx && c.exceptionTable.isEmpty && decide (c.maxStack ≤ mostOperands) && decide (meth.sig.returnType = rt) && !meth.locks && decide (parseMethodDescriptor y.desc = some meth.sig)) = true) : (Jvm.Cond.code y bytes mx rt).before a s = true := by
  simp only [Bool.and_eq_true, beq_iff_eq, Bool.not_eq_true', decide_eq_true_eq] at h5
  obtain ⟨⟨⟨⟨⟨g1, g2⟩, g3⟩, g4⟩, g5⟩, g6⟩ := h5
  simp [Cond.before, Cond.holds, Cond.value, h1, h2, h3, h4, g1, g2, g3, g4, g5, g6]
def isCode : Jvm.Cond → Bool
  | .code _ _ _ _ => true
  | _ => false
theorem all_split {L : List Jvm.Cond} {P : Jvm.Cond → Bool} (h1 : L.all (fun c => isCode c || P c) = true) (h2 : ∀ c ∈ L.filter isCode, P c = true) : L.all P = true := by
  refine List.all_eq_true.mpr fun c hc => ?_
  have h := List.all_eq_true.mp h1 c hc
  rcases Bool.eq_false_or_eq_true (isCode c) with hi | hi
  · exact h2 c (List.mem_filter.mpr ⟨hc, hi⟩)
  · simpa [hi] using h
set_option maxRecDepth 65536 in
theorem w_c0 : (Jvm.Cond.code x code maxLocals ret).before args0 about1 = true := code_word (m := ⟨1, 1⟩) (meth := k1m1) (c := k1c1) (by decide +kernel) rfl rfl rfl (by decide +kernel)
set_option maxRecDepth 65536 in
theorem w_c1 : (Jvm.Cond.code ({ cls := "com/example/axiomwright/axiomwright/Arcs", name := "<init>", desc := "()V" } : Jvm.MethodName) prog_2_method_1_code (1 : Nat) (Option.none : Option Jvm.ClassFile.FieldType)).before args0 about1 = true := code_word (m := ⟨2, 0⟩) (meth := k2m0) (c := k2c0) (by decide +kernel) rfl rfl rfl (by decide +kernel)
set_option maxRecDepth 65536 in
theorem w_c2 : (Jvm.Cond.code ({ cls := "java/lang/Object", name := "<init>", desc := "()V" } : Jvm.MethodName) object_method_1_code (1 : Nat) (Option.none : Option Jvm.ClassFile.FieldType)).before args0 about1 = true := code_word (m := ⟨0, 0⟩) (meth := k0m0) (c := k0c0) (by decide +kernel) rfl rfl rfl (by decide +kernel)
set_option maxRecDepth 65536 in
theorem w_c3 : (Jvm.Cond.code ({ cls := "com/example/axiomwright/axiomwright/Arcs", name := "add", desc := "(II)V" } : Jvm.MethodName) prog_2_method_3_code (3 : Nat) (Option.none : Option Jvm.ClassFile.FieldType)).before args0 about1 = true := code_word (m := ⟨2, 1⟩) (meth := k2m1) (c := k2c1) (by decide +kernel) rfl rfl rfl (by decide +kernel)
set_option maxRecDepth 65536 in
theorem w_c4 : (Jvm.Cond.code ({ cls := "com/example/axiomwright/axiomwright/Arcs", name := "addAll", desc := "(Lcom/example/axiomwright/axiomwright/Arcs;)V" } : Jvm.MethodName) prog_2_method_4_code (3 : Nat) (Option.none : Option Jvm.ClassFile.FieldType)).before args0 about1 = true := code_word (m := ⟨2, 2⟩) (meth := k2m2) (c := k2c2) (by decide +kernel) rfl rfl rfl (by decide +kernel)
set_option maxRecDepth 65536 in
theorem w_c5 : (Jvm.Cond.code ({ cls := "com/example/axiomwright/axiomwright/Arcs", name := "size", desc := "()I" } : Jvm.MethodName) prog_2_method_5_code (1 : Nat) (Option.some Jvm.ClassFile.FieldType.int)).before args0 about1 = true := code_word (m := ⟨2, 3⟩) (meth := k2m3) (c := k2c3) (by decide +kernel) rfl rfl rfl (by decide +kernel)
set_option maxRecDepth 65536 in
theorem w_c6 : (Jvm.Cond.code ({ cls := "java/util/Arrays", name := "copyOf", desc := "([II)[I" } : Jvm.MethodName) jdk_65_method_123_code (3 : Nat) (Option.some (Jvm.ClassFile.FieldType.array Jvm.ClassFile.FieldType.int))).before args0 about1 = true := code_word (m := ⟨3, 1⟩) (meth := k3m1) (c := k3c1) (by decide +kernel) rfl rfl rfl (by decide +kernel)
set_option maxRecDepth 65536 in
theorem w_c7 : (Jvm.Cond.code ({ cls := "java/lang/Math", name := "min", desc := "(II)I" } : Jvm.MethodName) jdk_29_method_69_code (2 : Nat) (Option.some Jvm.ClassFile.FieldType.int)).before args0 about1 = true := code_word (m := ⟨4, 1⟩) (meth := k4m1) (c := k4c1) (by decide +kernel) rfl rfl rfl (by decide +kernel)
set_option maxRecDepth 65536 in
theorem w_c8 : (Jvm.Cond.code ({ cls := "com/example/axiomwright/axiomwright/Arcs", name := "tail", desc := "(I)I" } : Jvm.MethodName) prog_2_method_6_code (2 : Nat) (Option.some Jvm.ClassFile.FieldType.int)).before args0 about1 = true := code_word (m := ⟨2, 4⟩) (meth := k2m4) (c := k2c4) (by decide +kernel) rfl rfl rfl (by decide +kernel)
set_option maxRecDepth 65536 in
theorem w_c9 : (Jvm.Cond.code ({ cls := "com/example/axiomwright/axiomwright/Arcs", name := "head", desc := "(I)I" } : Jvm.MethodName) prog_2_method_7_code (2 : Nat) (Option.some Jvm.ClassFile.FieldType.int)).before args0 about1 = true := code_word (m := ⟨2, 5⟩) (meth := k2m5) (c := k2c5) (by decide +kernel) rfl rfl rfl (by decide +kernel)
def codes1 : List Jvm.Cond := [Jvm.Cond.code x code maxLocals ret, Jvm.Cond.code ({ cls := "com/example/axiomwright/axiomwright/Arcs", name := "<init>", desc := "()V" } : Jvm.MethodName) prog_2_method_1_code (1 : Nat) (Option.none : Option Jvm.ClassFile.FieldType), Jvm.Cond.code ({ cls := "java/lang/Object", name := "<init>", desc := "()V" } : Jvm.MethodName) object_method_1_code (1 : Nat) (Option.none : Option Jvm.ClassFile.FieldType), Jvm.Cond.code ({ cls := "com/example/axiomwright/axiomwright/Arcs", name := "add", desc := "(II)V" } : Jvm.MethodName) prog_2_method_3_code (3 : Nat) (Option.none : Option Jvm.ClassFile.FieldType), Jvm.Cond.code ({ cls := "com/example/axiomwright/axiomwright/Arcs", name := "addAll", desc := "(Lcom/example/axiomwright/axiomwright/Arcs;)V" } : Jvm.MethodName) prog_2_method_4_code (3 : Nat) (Option.none : Option Jvm.ClassFile.FieldType), Jvm.Cond.code ({ cls := "com/example/axiomwright/axiomwright/Arcs", name := "size", desc := "()I" } : Jvm.MethodName) prog_2_method_5_code (1 : Nat) (Option.some Jvm.ClassFile.FieldType.int), Jvm.Cond.code ({ cls := "java/util/Arrays", name := "copyOf", desc := "([II)[I" } : Jvm.MethodName) jdk_65_method_123_code (3 : Nat) (Option.some (Jvm.ClassFile.FieldType.array Jvm.ClassFile.FieldType.int)), Jvm.Cond.code ({ cls := "java/lang/Math", name := "min", desc := "(II)I" } : Jvm.MethodName) jdk_29_method_69_code (2 : Nat) (Option.some Jvm.ClassFile.FieldType.int), Jvm.Cond.code ({ cls := "com/example/axiomwright/axiomwright/Arcs", name := "tail", desc := "(I)I" } : Jvm.MethodName) prog_2_method_6_code (2 : Nat) (Option.some Jvm.ClassFile.FieldType.int), Jvm.Cond.code ({ cls := "com/example/axiomwright/axiomwright/Arcs", name := "head", desc := "(I)I" } : Jvm.MethodName) prog_2_method_7_code (2 : Nat) (Option.some Jvm.ClassFile.FieldType.int)]
set_option maxRecDepth 65536 in
theorem codes_eq : words1.filter isCode = codes1 := rfl
theorem w_codes : ∀ c ∈ words1.filter isCode, c.before args0 about1 = true := by
  rw [codes_eq]
  intro c hc
  simp only [codes1, List.mem_cons, List.not_mem_nil, or_false] at hc
  rcases hc with rfl | rfl | rfl | rfl | rfl | rfl | rfl | rfl | rfl | rfl
  · exact w_c0
  · exact w_c1
  · exact w_c2
  · exact w_c3
  · exact w_c4
  · exact w_c5
  · exact w_c6
  · exact w_c7
  · exact w_c8
  · exact w_c9
set_option maxRecDepth 65536 in
theorem w_t1 : (words1.take 24).all (fun c => isCode c || c.before args0 about1) = true := by decide +kernel
set_option maxRecDepth 65536 in
theorem w_t2 : ((words1.drop 24).take 24).all (fun c => isCode c || c.before args0 about1) = true := by decide +kernel
set_option maxRecDepth 65536 in
theorem w_t3 : ((words1.drop 24).drop 24).all (fun c => isCode c || c.before args0 about1) = true := by decide +kernel
theorem w_tables : (allAtoms (Jvm.Cond.code x code maxLocals ret :: tables_1)).before args0 about1 = true := by
  rw [allAtoms_all]
  show words1.all (fun c => c.before args0 about1) = true
  refine all_split ?_ w_codes
  rw [← List.take_append_drop 24 words1, List.all_append, w_t1, ← List.take_append_drop 24 (words1.drop 24), List.all_append, w_t2, w_t3]
  rfl
set_option maxRecDepth 65536 in
theorem w_case : (Jvm.Cond.and given_1 narrow_1).before args0 about1 = true := by decide +kernel
theorem w_applies : (headSpec (Jvm.Cond.code x code maxLocals ret :: tables_1) room_1).applies x e0.platform about1 = true :=
  (Spec.applies_iff w_frames).mpr ⟨w_running, w_runnable, w_alone, w_named, w_hears, w_ripe, w_room, w_tables⟩
theorem atStart : AtStart classFile x code maxLocals ret World_1 tables_1 room_1 Calls_1 rest_1 Pre_1 launch0 p0 e0 about1 theMethod args0 below0 :=
  ⟨lists_1, trivial, launch0.admits_env _ _ _, launch0.least_env, fairChoices_fair.cas, fairChoices_fair.clock, w_frames, w_args, w_heap, w_applies, trivial, trivial, w_case⟩
end start1
theorem witness_1 : WitnessClaimed_1 := ⟨start1.p0, start1.e0, start1.about1, start1.theMethod, start1.args0, start1.below0, start1.atStart⟩
end Jvm.Pilot.@@N@@
