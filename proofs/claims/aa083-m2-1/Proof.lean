import JvmDerived
import JvmDerived.Pilot.@@N@@Statement
import JvmDerived.Pilot.@@N@@Code
set_option linter.unusedVariables false
set_option linter.unusedSimpArgs false
namespace Jvm.Pilot.@@N@@
open Jvm Jvm.ClassFile Sem Op Lib Jvm.Free Jvm.Stand Jvm.LawKit Jvm.RoadKit Bundle Jvm.Pilot.@@N@@.Jvm.D
theorem own_go {tb : Tables} {e : Env} {below : List Frame} {A B : State} {P : State → Outcome → Prop} (h : ∀ t, Steps tb e below B t → Steps tb e below A t) (k : ∃ s₂ o, Steps tb e below B s₂ ∧ P s₂ o) : ∃ s₂ o, Steps tb e below A s₂ ∧ P s₂ o := by
  obtain ⟨s₂, o, h1, h2⟩ := k; exact ⟨s₂, o, h _ h1, h2⟩
theorem d1_0 : decode prog_2_method_1_code 0 = .ok (.aload_n 0, 1) := by decide +kernel
theorem d1_1 : decode prog_2_method_1_code 1 = .ok (.invokespecial 1, 3) := by decide +kernel
theorem d1_4 : decode prog_2_method_1_code 4 = .ok (.aload_n 0, 1) := by decide +kernel
theorem d1_5 : decode prog_2_method_1_code 5 = .ok (.bipush 16, 2) := by decide +kernel
theorem d1_7 : decode prog_2_method_1_code 7 = .ok (.newarray .int, 2) := by decide +kernel
theorem d1_9 : decode prog_2_method_1_code 9 = .ok (.putfield 7, 3) := by decide +kernel
theorem d1_12 : decode prog_2_method_1_code 12 = .ok (.aload_n 0, 1) := by decide +kernel
theorem d1_13 : decode prog_2_method_1_code 13 = .ok (.bipush 16, 2) := by decide +kernel
theorem d1_15 : decode prog_2_method_1_code 15 = .ok (.newarray .int, 2) := by decide +kernel
theorem d1_17 : decode prog_2_method_1_code 17 = .ok (.putfield 13, 3) := by decide +kernel
theorem d1_20 : decode prog_2_method_1_code 20 = .ok (.return_, 1) := by decide +kernel
theorem pn_0 : plainName "com/example/axiomwright/axiomwright/Arcs" = true := by first | (simp [plainName, overriddenIn]; done) | decide +kernel
theorem d6_0 : decode prog_2_method_3_code 0 = .ok (.aload_n 0, 1) := by decide +kernel
theorem d6_1 : decode prog_2_method_3_code 1 = .ok (.getfield 16, 3) := by decide +kernel
theorem d6_4 : decode prog_2_method_3_code 4 = .ok (.aload_n 0, 1) := by decide +kernel
theorem d6_5 : decode prog_2_method_3_code 5 = .ok (.getfield 7, 3) := by decide +kernel
theorem d6_8 : decode prog_2_method_3_code 8 = .ok (.arraylength, 1) := by decide +kernel
theorem d6_9 : decode prog_2_method_3_code 9 = .ok (.if_icmp .ne 37, 3) := by decide +kernel
theorem d6_46 : decode prog_2_method_3_code 46 = .ok (.aload_n 0, 1) := by decide +kernel
theorem d6_47 : decode prog_2_method_3_code 47 = .ok (.getfield 7, 3) := by decide +kernel
theorem d6_50 : decode prog_2_method_3_code 50 = .ok (.aload_n 0, 1) := by decide +kernel
theorem d6_51 : decode prog_2_method_3_code 51 = .ok (.getfield 16, 3) := by decide +kernel
theorem d6_54 : decode prog_2_method_3_code 54 = .ok (.iload_n 1, 1) := by decide +kernel
theorem d6_55 : decode prog_2_method_3_code 55 = .ok (.iastore, 1) := by decide +kernel
theorem d6_56 : decode prog_2_method_3_code 56 = .ok (.aload_n 0, 1) := by decide +kernel
theorem d6_57 : decode prog_2_method_3_code 57 = .ok (.getfield 13, 3) := by decide +kernel
theorem d6_60 : decode prog_2_method_3_code 60 = .ok (.aload_n 0, 1) := by decide +kernel
theorem d6_61 : decode prog_2_method_3_code 61 = .ok (.dup, 1) := by decide +kernel
theorem d6_62 : decode prog_2_method_3_code 62 = .ok (.getfield 16, 3) := by decide +kernel
theorem d6_65 : decode prog_2_method_3_code 65 = .ok (.dup_x1, 1) := by decide +kernel
theorem d6_66 : decode prog_2_method_3_code 66 = .ok (.iconst 1, 1) := by decide +kernel
theorem d6_67 : decode prog_2_method_3_code 67 = .ok (.iadd, 1) := by decide +kernel
theorem d6_68 : decode prog_2_method_3_code 68 = .ok (.putfield 16, 3) := by decide +kernel
theorem d6_71 : decode prog_2_method_3_code 71 = .ok (.iload_n 2, 1) := by decide +kernel
theorem d6_72 : decode prog_2_method_3_code 72 = .ok (.iastore, 1) := by decide +kernel
theorem d6_73 : decode prog_2_method_3_code 73 = .ok (.return_, 1) := by decide +kernel
theorem d3_0 : decode prog_2_method_4_code 0 = .ok (.iconst 0, 1) := by decide +kernel
theorem d3_1 : decode prog_2_method_4_code 1 = .ok (.istore_n 2, 1) := by decide +kernel
theorem d3_2 : decode prog_2_method_4_code 2 = .ok (.iload_n 2, 1) := by decide +kernel
theorem d3_3 : decode prog_2_method_4_code 3 = .ok (.aload_n 1, 1) := by decide +kernel
theorem d3_4 : decode prog_2_method_4_code 4 = .ok (.getfield 16, 3) := by decide +kernel
theorem d3_7 : decode prog_2_method_4_code 7 = .ok (.if_icmp .ge 25, 3) := by decide +kernel
theorem d3_32 : decode prog_2_method_4_code 32 = .ok (.return_, 1) := by decide +kernel
theorem d3_10 : decode prog_2_method_4_code 10 = .ok (.aload_n 0, 1) := by decide +kernel
theorem d3_11 : decode prog_2_method_4_code 11 = .ok (.aload_n 1, 1) := by decide +kernel
theorem d3_12 : decode prog_2_method_4_code 12 = .ok (.getfield 7, 3) := by decide +kernel
theorem d3_15 : decode prog_2_method_4_code 15 = .ok (.iload_n 2, 1) := by decide +kernel
theorem d3_16 : decode prog_2_method_4_code 16 = .ok (.iaload, 1) := by decide +kernel
theorem d3_17 : decode prog_2_method_4_code 17 = .ok (.aload_n 1, 1) := by decide +kernel
theorem d3_18 : decode prog_2_method_4_code 18 = .ok (.getfield 13, 3) := by decide +kernel
theorem d3_21 : decode prog_2_method_4_code 21 = .ok (.iload_n 2, 1) := by decide +kernel
theorem d3_22 : decode prog_2_method_4_code 22 = .ok (.iaload, 1) := by decide +kernel
theorem d3_23 : decode prog_2_method_4_code 23 = .ok (.invokevirtual 26, 3) := by decide +kernel
theorem pd_0 : parseMethodDescriptor "(II)V" = some ⟨[.int, .int], none⟩ := by decide +kernel
theorem d3_26 : decode prog_2_method_4_code 26 = .ok (.iinc 2 1, 3) := by decide +kernel
theorem d3_29 : decode prog_2_method_4_code 29 = .ok (.goto (-27), 3) := by decide +kernel
theorem d4_0 : decode prog_2_method_5_code 0 = .ok (.aload_n 0, 1) := by decide +kernel
theorem d4_1 : decode prog_2_method_5_code 1 = .ok (.getfield 16, 3) := by decide +kernel
theorem d4_4 : decode prog_2_method_5_code 4 = .ok (.ireturn, 1) := by decide +kernel
theorem d7_0 : decode prog_2_method_6_code 0 = .ok (.aload_n 0, 1) := by decide +kernel
theorem d7_1 : decode prog_2_method_6_code 1 = .ok (.getfield 7, 3) := by decide +kernel
theorem d7_4 : decode prog_2_method_6_code 4 = .ok (.iload_n 1, 1) := by decide +kernel
theorem d7_5 : decode prog_2_method_6_code 5 = .ok (.iaload, 1) := by decide +kernel
theorem d7_6 : decode prog_2_method_6_code 6 = .ok (.ireturn, 1) := by decide +kernel
theorem d8_0 : decode prog_2_method_7_code 0 = .ok (.aload_n 0, 1) := by decide +kernel
theorem d8_1 : decode prog_2_method_7_code 1 = .ok (.getfield 13, 3) := by decide +kernel
theorem d8_4 : decode prog_2_method_7_code 4 = .ok (.iload_n 1, 1) := by decide +kernel
theorem d8_5 : decode prog_2_method_7_code 5 = .ok (.iaload, 1) := by decide +kernel
theorem d8_6 : decode prog_2_method_7_code 6 = .ok (.ireturn, 1) := by decide +kernel
theorem d5_0 : decode method_2_code 0 = .ok (.iload_n 1, 1) := by decide +kernel
theorem d5_1 : decode method_2_code 1 = .ok (.iload_n 2, 1) := by decide +kernel
theorem d5_2 : decode method_2_code 2 = .ok (.if_icmp .ge 26, 3) := by decide +kernel
theorem d5_28 : decode method_2_code 28 = .ok (.iconst 1, 1) := by decide +kernel
theorem d5_29 : decode method_2_code 29 = .ok (.goto 4, 3) := by decide +kernel
theorem d5_33 : decode method_2_code 33 = .ok (.ireturn, 1) := by decide +kernel
theorem pn_1 : plainName "com/example/axiomwright/axiomwright/ArcsAddAllPinLaw" = true := by first | (simp [plainName, overriddenIn]; done) | decide +kernel
theorem d5_5 : decode method_2_code 5 = .ok (.aload_n 0, 1) := by decide +kernel
theorem d5_6 : decode method_2_code 6 = .ok (.iload_n 1, 1) := by decide +kernel
theorem d5_7 : decode method_2_code 7 = .ok (.invokevirtual 7, 3) := by decide +kernel
theorem pd_1 : parseMethodDescriptor "(I)I" = some ⟨[.int], some .int⟩ := by decide +kernel
theorem d5_10 : decode method_2_code 10 = .ok (.aload_n 3, 1) := by decide +kernel
theorem d5_11 : decode method_2_code 11 = .ok (.iload_n 1, 1) := by decide +kernel
theorem d5_12 : decode method_2_code 12 = .ok (.iaload, 1) := by decide +kernel
theorem d5_13 : decode method_2_code 13 = .ok (.if_icmp .ne 19, 3) := by decide +kernel
theorem d5_16 : decode method_2_code 16 = .ok (.aload_n 0, 1) := by decide +kernel
theorem d5_17 : decode method_2_code 17 = .ok (.iload_n 1, 1) := by decide +kernel
theorem d5_18 : decode method_2_code 18 = .ok (.invokevirtual 13, 3) := by decide +kernel
theorem d5_21 : decode method_2_code 21 = .ok (.aload 4, 2) := by decide +kernel
theorem d5_23 : decode method_2_code 23 = .ok (.iload_n 1, 1) := by decide +kernel
theorem d5_24 : decode method_2_code 24 = .ok (.iaload, 1) := by decide +kernel
theorem d5_25 : decode method_2_code 25 = .ok (.if_icmp .ne 7, 3) := by decide +kernel
theorem d5_32 : decode method_2_code 32 = .ok (.iconst 0, 1) := by decide +kernel
theorem pd_2 : parseMethodDescriptor "()V" = some ⟨[], none⟩ := by decide +kernel
theorem pd_3 : parseMethodDescriptor "(Lcom/example/axiomwright/axiomwright/Arcs;)V" = some ⟨[(.object "com/example/axiomwright/axiomwright/Arcs")], none⟩ := by decide +kernel
theorem pd_4 : parseMethodDescriptor "()I" = some ⟨[], some .int⟩ := by decide +kernel
theorem pd_5 : parseMethodDescriptor "(Lcom/example/axiomwright/axiomwright/Arcs;II[I[I)Z" = some ⟨[(.object "com/example/axiomwright/axiomwright/Arcs"), .int, .int, (.array .int), (.array .int)], some .boolean⟩ := by decide +kernel
def Qrm1 (Z : State) (a1 : Addr) (h0 : Heap) (n0 : Nat) (v : Option Value) (h : Heap) (L : List Loc) : Prop := ∃ b1 : Addr, ∃ b2 : Addr, ∃ k1 : ClassId, ∃ k2 : ClassId, v = none ∧ Fr n0 L ∧ Keep h0 h [a1] ∧ h0.size ≤ b1 ∧ h0.size ≤ b2 ∧ b1 ≠ b2 ∧ Fld Z h a1 "com/example/axiomwright/axiomwright/Arcs" "from" "[I" (.ref b1) ∧ Fld Z h a1 "com/example/axiomwright/axiomwright/Arcs" "to" "[I" (.ref b2) ∧ Fld Z h a1 "com/example/axiomwright/axiomwright/Arcs" "size" "I" (.int (0 : Int32)) ∧ Arv Z h b1 k1 .int (16 : Int32) [(.int (0 : Int32)), (.int (0 : Int32)), (.int (0 : Int32)), (.int (0 : Int32)), (.int (0 : Int32)), (.int (0 : Int32)), (.int (0 : Int32)), (.int (0 : Int32)), (.int (0 : Int32)), (.int (0 : Int32)), (.int (0 : Int32)), (.int (0 : Int32)), (.int (0 : Int32)), (.int (0 : Int32)), (.int (0 : Int32)), (.int (0 : Int32))] (.int (0 : Int32)) ∧ Arv Z h b2 k2 .int (16 : Int32) [(.int (0 : Int32)), (.int (0 : Int32)), (.int (0 : Int32)), (.int (0 : Int32)), (.int (0 : Int32)), (.int (0 : Int32)), (.int (0 : Int32)), (.int (0 : Int32)), (.int (0 : Int32)), (.int (0 : Int32)), (.int (0 : Int32)), (.int (0 : Int32)), (.int (0 : Int32)), (.int (0 : Int32)), (.int (0 : Int32)), (.int (0 : Int32))] (.int (0 : Int32))
theorem efrm1 (m : MethodId) (x0 : Addr) : entryFrame m #[(.ref x0)] 1 = mkF m 0 #[.val (.ref x0)] [] := by first | (simp [entryFrame, mkF, argsToLocals, Value.category]; done) | rfl
set_option maxRecDepth 65536 in
set_option maxHeartbeats 40000000 in
theorem rm1 (l : Launch) (Z : State) (a0 : Array Value) (hw : ∀ d ∈ tables_1, d.before a0 Z = true) (ws : List Jvm.Cond) (a1 : Addr) (h0 : Heap) (n0 : Nat) (Z0 : n0 ≤ h0.size) (P0 : Exa Z h0 a1 "com/example/axiomwright/axiomwright/Arcs") (P1 : Fld Z h0 a1 "com/example/axiomwright/axiomwright/Arcs" "from" "[I" .null) (P2 : Fld Z h0 a1 "com/example/axiomwright/axiomwright/Arcs" "to" "[I" .null) (P3 : Fld Z h0 a1 "com/example/axiomwright/axiomwright/Arcs" "size" "I" (.int (0 : Int32))) (g_a1 : n0 ≤ a1) :
    MetFree l (⟨"com/example/axiomwright/axiomwright/Arcs", "<init>", "()V"⟩ : MethodName) (head1 (Jvm.Cond.code (⟨"com/example/axiomwright/axiomwright/Arcs", "<init>", "()V"⟩ : MethodName) prog_2_method_1_code 1 none :: ws) ({ frames := 1, cells := 2, slots := 32, locals := 12 } : Room)) (fun a U => a = #[(.ref a1)] ∧ Z.Warmed39 U.vm ∧ U.heap = h0) (fun _ _ _ _ _ => True) (fun _ U o U' => ∃ v L, o = .returned v ∧ Qrm1 Z a1 h0 n0 v U'.heap L ∧ FrameEnd U o U' L ({ frames := 1, cells := 2, slots := 32, locals := 12 } : Room).cells ({ frames := 1, cells := 2, slots := 32, locals := 12 } : Room).slots) := by
  refine MetFree.of_bodySF (plainFor_of_name pn_0) hisR ?_
  intro p e s m args below meth c s₁ Bd hml0 hP hK
  obtain ⟨rfl, hZ, hh⟩ := hP
  have hx := Bd.exec
  have hby := Bd.bytes
  have hml : c.maxLocals = 1 := hml0
  have hown : s.vm.findClass "com/example/axiomwright/axiomwright/Arcs" = some m.cls := findClass_of_methodNamed Bd.named
  have hnm := (name_of_methodNamed Bd.named Bd.method).1
  have X0 : Stand p l e ({ frames := 1, cells := 2, slots := 32, locals := 12 } : Room) s m #[(.ref a1)] below meth c s₁ [] 0 0 := Stand.of_body Bd
  have e0 : s₁.heap = h0 := by rw [← hh, Bd.state]; rfl
  have N0 := Fr.nil n0
  have K0 : Keep h0 h0 [a1] := Keep.refl h0 _
  refine own_go (B := s₁.setTop (mkF m 0 #[.val (.ref a1)] [])) (fun t k => castTop (efrm1 m a1) k) ?_
  refine own_go (A := s₁.setTop (mkF m 0 #[.val (.ref a1)] [])) (B := s₁.setTop (mkF m 1 #[.val (.ref a1)] [(.ref a1)])) (fun t k => ?_) ?_
  · show Steps p.tables e below (s₁.setTop (mkF m 0 #[.val (.ref a1)] [])) _
    refine XS.aloadN X0.here hx rfl (hb hby d1_0) rfl rfl ?_
    exact k
  obtain ⟨T1, X1, e1, st1⟩ := initO X0 hx hZ hown (hw _ (List.mem_of_getElem? (i := 7) rfl)) (hw _ (List.mem_of_getElem? (i := 8) rfl)) (hw _ (List.mem_of_getElem? (i := 9) rfl)) e0 (g := (mkF m 1 #[.val (.ref a1)] [(.ref a1)])) rfl (by rw [hml]; rfl) rfl (hb hby d1_1) (by decide) (W := 0) (by show 2 * 0 + _ ≤ _; exact Nat.le_of_eq rfl) (by decide)
  refine own_go st1 ?_
  refine own_go (A := T1.setTop (mkF m 4 #[.val (.ref a1)] [])) (B := T1.setTop (mkF m 7 #[.val (.ref a1)] [(.int (16 : Int32)), (.ref a1)])) (fun t k => ?_) ?_
  · show Steps p.tables e below (T1.setTop (mkF m 4 #[.val (.ref a1)] [])) _
    refine XS.aloadN X1.here hx rfl (hb hby d1_4) rfl rfl ?_
    show Steps p.tables e below (T1.setTop (mkF m 5 #[.val (.ref a1)] [(.ref a1)])) _
    refine XS.bipush X1.here hx rfl (hb hby d1_5) ?_
    exact k
  obtain ⟨T2, h2, k2, X2, e2, E2, A2, st2⟩ := newP X1 hx hZ (hw _ (List.mem_of_getElem? (i := 0) rfl)) e1 (g := (mkF m 7 #[.val (.ref a1)] [(.int (16 : Int32)), (.ref a1)])) rfl (hb hby d1_7) rfl (by decide) (cap := 16) (by decide) (by decide) (by decide) (by decide)
  obtain ⟨b2, g2⟩ : ∃ z, z = h0.size := ⟨_, rfl⟩
  rw [← g2] at A2 st2
  have ne2_a1 : a1 ≠ b2 := Nat.ne_of_lt (Nat.lt_of_lt_of_le P0.lt (Nat.le_of_eq g2.symm))
  have low2 : n0 ≤ b2 := Nat.le_trans Z0 (Nat.le_of_eq g2.symm)
  have sz2 : h0.size ≤ b2 := Nat.le_trans K0.1 (Nat.le_of_eq g2.symm)
  have Q3 : Exa Z h2 a1 "com/example/axiomwright/axiomwright/Arcs" := P0.ext E2
  have Q4 : Fld Z h2 a1 "com/example/axiomwright/axiomwright/Arcs" "from" "[I" .null := P1.ext E2
  have Q5 : Fld Z h2 a1 "com/example/axiomwright/axiomwright/Arcs" "to" "[I" .null := P2.ext E2
  have Q6 : Fld Z h2 a1 "com/example/axiomwright/axiomwright/Arcs" "size" "I" (.int (0 : Int32)) := P3.ext E2
  have Z2 : n0 ≤ h2.size := Nat.le_trans Z0 E2.1
  have K2 := K0.ext E2
  have V2 : Arv Z h2 b2 k2 .int (16 : Int32) [(.int (0 : Int32)), (.int (0 : Int32)), (.int (0 : Int32)), (.int (0 : Int32)), (.int (0 : Int32)), (.int (0 : Int32)), (.int (0 : Int32)), (.int (0 : Int32)), (.int (0 : Int32)), (.int (0 : Int32)), (.int (0 : Int32)), (.int (0 : Int32)), (.int (0 : Int32)), (.int (0 : Int32)), (.int (0 : Int32)), (.int (0 : Int32))] (.int (0 : Int32)) := (Arv.new A2 (by decide)).pad (pad_rep [] (.int (0 : Int32)) 16)
  refine own_go st2 ?_
  obtain ⟨T7, h7, X7, e7, W7, st7⟩ := putF X2 hx hZ hown (host := "") (Or.inl (hw _ (List.mem_of_getElem? (i := 10) rfl))) Via.refl e2 Q4 Q3 (Or.inl (hw _ (List.mem_of_getElem? (i := 11) rfl))) (hw _ (List.mem_of_getElem? (i := 2) rfl)) (ty := (.array .int)) (by decide) rfl rfl (g := (mkF m 9 #[.val (.ref a1)] [(.ref b2), (.ref a1)])) rfl rfl (hb hby d1_9)
  have Q8 : Exa Z h7 a1 "com/example/axiomwright/axiomwright/Arcs" := Q3.wr W7
  have Q9 : Fld Z h7 a1 "com/example/axiomwright/axiomwright/Arcs" "to" "[I" .null := Q5.other W7 (Or.inr (slot_ne (Or.inl (hw _ (List.mem_of_getElem? (i := 13) rfl))) (Or.inl (hw _ (List.mem_of_getElem? (i := 11) rfl))) (by decide) (t := (.array .int)) (t' := (.array .int)) (by decide) (by decide)))
  have Q10 : Fld Z h7 a1 "com/example/axiomwright/axiomwright/Arcs" "size" "I" (.int (0 : Int32)) := Q6.other W7 (Or.inr (slot_ne (Or.inl (hw _ (List.mem_of_getElem? (i := 20) rfl))) (Or.inl (hw _ (List.mem_of_getElem? (i := 11) rfl))) (by decide) (t := .int) (t' := (.array .int)) (by decide) (by decide)))
  have Q11 : Arv Z h7 b2 k2 .int (16 : Int32) [(.int (0 : Int32)), (.int (0 : Int32)), (.int (0 : Int32)), (.int (0 : Int32)), (.int (0 : Int32)), (.int (0 : Int32)), (.int (0 : Int32)), (.int (0 : Int32)), (.int (0 : Int32)), (.int (0 : Int32)), (.int (0 : Int32)), (.int (0 : Int32)), (.int (0 : Int32)), (.int (0 : Int32)), (.int (0 : Int32)), (.int (0 : Int32))] (.int (0 : Int32)) := V2.other W7 (Ne.symm ne2_a1)
  have U7 : Fld Z h7 a1 "com/example/axiomwright/axiomwright/Arcs" "from" "[I" (.ref b2) := Q4.same W7
  have Z7 : n0 ≤ h7.size := Nat.le_trans Z2 (Keep.of_wr W7).1
  have N7 := Fr.snoc X7 N0 g_a1
  have K7 := K2.wr W7 (Or.inl (List.mem_of_getElem? (i := 0) rfl))
  refine own_go st7 ?_
  refine own_go (A := T7.setTop (mkF m 12 #[.val (.ref a1)] [])) (B := T7.setTop (mkF m 15 #[.val (.ref a1)] [(.int (16 : Int32)), (.ref a1)])) (fun t k => ?_) ?_
  · show Steps p.tables e below (T7.setTop (mkF m 12 #[.val (.ref a1)] [])) _
    refine XS.aloadN X7.here hx rfl (hb hby d1_12) rfl rfl ?_
    show Steps p.tables e below (T7.setTop (mkF m 13 #[.val (.ref a1)] [(.ref a1)])) _
    refine XS.bipush X7.here hx rfl (hb hby d1_13) ?_
    exact k
  obtain ⟨T12, h12, k12, X12, e12, E12, A12, st12⟩ := newP X7 hx hZ (hw _ (List.mem_of_getElem? (i := 0) rfl)) e7 (g := (mkF m 15 #[.val (.ref a1)] [(.int (16 : Int32)), (.ref a1)])) rfl (hb hby d1_15) rfl (by decide) (cap := 16) (by decide) (by decide) (by decide) (by decide)
  obtain ⟨b12, g12⟩ : ∃ z, z = h7.size := ⟨_, rfl⟩
  rw [← g12] at A12 st12
  have ne12_a1 : a1 ≠ b12 := Nat.ne_of_lt (Nat.lt_of_lt_of_le Q8.lt (Nat.le_of_eq g12.symm))
  have ne12_b2 : b2 ≠ b12 := Nat.ne_of_lt (Nat.lt_of_lt_of_le Q11.lt (Nat.le_of_eq g12.symm))
  have low12 : n0 ≤ b12 := Nat.le_trans Z7 (Nat.le_of_eq g12.symm)
  have sz12 : h0.size ≤ b12 := Nat.le_trans K7.1 (Nat.le_of_eq g12.symm)
  have Q13 : Exa Z h12 a1 "com/example/axiomwright/axiomwright/Arcs" := Q8.ext E12
  have Q14 : Fld Z h12 a1 "com/example/axiomwright/axiomwright/Arcs" "to" "[I" .null := Q9.ext E12
  have Q15 : Fld Z h12 a1 "com/example/axiomwright/axiomwright/Arcs" "size" "I" (.int (0 : Int32)) := Q10.ext E12
  have Q16 : Arv Z h12 b2 k2 .int (16 : Int32) [(.int (0 : Int32)), (.int (0 : Int32)), (.int (0 : Int32)), (.int (0 : Int32)), (.int (0 : Int32)), (.int (0 : Int32)), (.int (0 : Int32)), (.int (0 : Int32)), (.int (0 : Int32)), (.int (0 : Int32)), (.int (0 : Int32)), (.int (0 : Int32)), (.int (0 : Int32)), (.int (0 : Int32)), (.int (0 : Int32)), (.int (0 : Int32))] (.int (0 : Int32)) := Q11.ext E12
  have Q17 : Fld Z h12 a1 "com/example/axiomwright/axiomwright/Arcs" "from" "[I" (.ref b2) := U7.ext E12
  have Z12 : n0 ≤ h12.size := Nat.le_trans Z7 E12.1
  have K12 := K7.ext E12
  have V12 : Arv Z h12 b12 k12 .int (16 : Int32) [(.int (0 : Int32)), (.int (0 : Int32)), (.int (0 : Int32)), (.int (0 : Int32)), (.int (0 : Int32)), (.int (0 : Int32)), (.int (0 : Int32)), (.int (0 : Int32)), (.int (0 : Int32)), (.int (0 : Int32)), (.int (0 : Int32)), (.int (0 : Int32)), (.int (0 : Int32)), (.int (0 : Int32)), (.int (0 : Int32)), (.int (0 : Int32))] (.int (0 : Int32)) := (Arv.new A12 (by decide)).pad (pad_rep [] (.int (0 : Int32)) 16)
  refine own_go st12 ?_
  obtain ⟨T18, h18, X18, e18, W18, st18⟩ := putF X12 hx hZ hown (host := "") (Or.inl (hw _ (List.mem_of_getElem? (i := 12) rfl))) Via.refl e12 Q14 Q13 (Or.inl (hw _ (List.mem_of_getElem? (i := 13) rfl))) (hw _ (List.mem_of_getElem? (i := 2) rfl)) (ty := (.array .int)) (by decide) rfl rfl (g := (mkF m 17 #[.val (.ref a1)] [(.ref b12), (.ref a1)])) rfl rfl (hb hby d1_17)
  have Q19 : Exa Z h18 a1 "com/example/axiomwright/axiomwright/Arcs" := Q13.wr W18
  have Q20 : Fld Z h18 a1 "com/example/axiomwright/axiomwright/Arcs" "size" "I" (.int (0 : Int32)) := Q15.other W18 (Or.inr (slot_ne (Or.inl (hw _ (List.mem_of_getElem? (i := 20) rfl))) (Or.inl (hw _ (List.mem_of_getElem? (i := 13) rfl))) (by decide) (t := .int) (t' := (.array .int)) (by decide) (by decide)))
  have Q21 : Arv Z h18 b2 k2 .int (16 : Int32) [(.int (0 : Int32)), (.int (0 : Int32)), (.int (0 : Int32)), (.int (0 : Int32)), (.int (0 : Int32)), (.int (0 : Int32)), (.int (0 : Int32)), (.int (0 : Int32)), (.int (0 : Int32)), (.int (0 : Int32)), (.int (0 : Int32)), (.int (0 : Int32)), (.int (0 : Int32)), (.int (0 : Int32)), (.int (0 : Int32)), (.int (0 : Int32))] (.int (0 : Int32)) := Q16.other W18 (Ne.symm ne2_a1)
  have Q22 : Fld Z h18 a1 "com/example/axiomwright/axiomwright/Arcs" "from" "[I" (.ref b2) := Q17.other W18 (Or.inr (slot_ne (Or.inl (hw _ (List.mem_of_getElem? (i := 11) rfl))) (Or.inl (hw _ (List.mem_of_getElem? (i := 13) rfl))) (by decide) (t := (.array .int)) (t' := (.array .int)) (by decide) (by decide)))
  have Q23 : Arv Z h18 b12 k12 .int (16 : Int32) [(.int (0 : Int32)), (.int (0 : Int32)), (.int (0 : Int32)), (.int (0 : Int32)), (.int (0 : Int32)), (.int (0 : Int32)), (.int (0 : Int32)), (.int (0 : Int32)), (.int (0 : Int32)), (.int (0 : Int32)), (.int (0 : Int32)), (.int (0 : Int32)), (.int (0 : Int32)), (.int (0 : Int32)), (.int (0 : Int32)), (.int (0 : Int32))] (.int (0 : Int32)) := V12.other W18 (Ne.symm ne12_a1)
  have U18 : Fld Z h18 a1 "com/example/axiomwright/axiomwright/Arcs" "to" "[I" (.ref b12) := Q14.same W18
  have Z18 : n0 ≤ h18.size := Nat.le_trans Z12 (Keep.of_wr W18).1
  have N18 := Fr.snoc X18 N7 g_a1
  have K18 := K12.wr W18 (Or.inl (List.mem_of_getElem? (i := 0) rfl))
  refine own_go st18 ?_
  obtain ⟨fs, hr, hrun, hended, hW, hsame⟩ := X18.leave (v := none) (fun _ => rfl)
  refine ⟨_, _, ?_, hrun, hended, _, _, rfl, ?_, ⟨_, rfl⟩, hW, hsame.mono (by decide) (by decide)⟩
  · show Steps p.tables e below (T18.setTop (mkF m 20 #[.val (.ref a1)] [])) _
    exact X18.returnOut hx Bd.returns (hb hby d1_20) hr
  · show Qrm1 Z a1 h0 n0 _ T18.heap _
    rw [e18]
    exact ⟨b2, b12, k2, k12, rfl, N18, K18, sz2, sz12, ne12_b2, Q22, U18, Q20, Q21, Q23⟩
def Qrm6 (Z : State) (a1 : Addr) (p2 : Int32) (p3 : Int32) (i0 : Int32) (b1 : Addr) (b2 : Addr) (k1 : ClassId) (k2 : ClassId) (xs : List Value) (ys : List Value) (h0 : Heap) (n0 : Nat) (v : Option Value) (h : Heap) (L : List Loc) : Prop := v = none ∧ Fr n0 L ∧ Keep h0 h [a1, b1, b2] ∧ Fld Z h a1 "com/example/axiomwright/axiomwright/Arcs" "size" "I" (.int (i0 + (1 : Int32))) ∧ Fld Z h a1 "com/example/axiomwright/axiomwright/Arcs" "from" "[I" (.ref b1) ∧ Fld Z h a1 "com/example/axiomwright/axiomwright/Arcs" "to" "[I" (.ref b2) ∧ Arv Z h b1 k1 .int (16 : Int32) (xs.set i0.toNatClampNeg (.int p2)) (.int (0 : Int32)) ∧ Arv Z h b2 k2 .int (16 : Int32) (ys.set i0.toNatClampNeg (.int p3)) (.int (0 : Int32))
theorem efrm6 (m : MethodId) (x0 : Addr) (x1 : Int32) (x2 : Int32) : entryFrame m #[(.ref x0), (.int x1), (.int x2)] 3 = mkF m 0 #[.val (.ref x0), .val (.int x1), .val (.int x2)] [] := by first | (simp [entryFrame, mkF, argsToLocals, Value.category]; done) | rfl
set_option maxRecDepth 65536 in
set_option maxHeartbeats 40000000 in
theorem rm6 (l : Launch) (Z : State) (a0 : Array Value) (hw : ∀ d ∈ tables_1, d.before a0 Z = true) (ws : List Jvm.Cond) (a1 : Addr) (p2 : Int32) (p3 : Int32) (i0 : Int32) (b1 : Addr) (b2 : Addr) (k1 : ClassId) (k2 : ClassId) (xs : List Value) (ys : List Value) (h0 : Heap) (n0 : Nat) (Z0 : n0 ≤ h0.size) (P0 : Exa Z h0 a1 "com/example/axiomwright/axiomwright/Arcs") (P1 : Fld Z h0 a1 "com/example/axiomwright/axiomwright/Arcs" "size" "I" (.int i0)) (P2 : Fld Z h0 a1 "com/example/axiomwright/axiomwright/Arcs" "from" "[I" (.ref b1)) (P3 : Fld Z h0 a1 "com/example/axiomwright/axiomwright/Arcs" "to" "[I" (.ref b2)) (P4 : Arv Z h0 b1 k1 .int (16 : Int32) xs (.int (0 : Int32))) (P5 : Arv Z h0 b2 k2 .int (16 : Int32) ys (.int (0 : Int32))) (g_a1 : n0 ≤ a1) (g_b1 : n0 ≤ b1) (g_b2 : n0 ≤ b2) (ne_a1_b1 : a1 ≠ b1) (ne_a1_b2 : a1 ≠ b2) (ne_b1_b2 : b1 ≠ b2) (h0' : ¬ i0 < (0 : Int32)) (h1' : i0 < (16 : Int32)) (hne' : ¬ (i0 = (16 : Int32))) (hx' : i0.toNatClampNeg < xs.length) (hy' : i0.toNatClampNeg < ys.length) :
    MetFree l (⟨"com/example/axiomwright/axiomwright/Arcs", "add", "(II)V"⟩ : MethodName) (head1 (Jvm.Cond.code (⟨"com/example/axiomwright/axiomwright/Arcs", "add", "(II)V"⟩ : MethodName) prog_2_method_3_code 3 none :: ws) ({ frames := 0, cells := 0, slots := 0, locals := 0 } : Room)) (fun a U => a = #[(.ref a1), (.int p2), (.int p3)] ∧ Z.Warmed39 U.vm ∧ U.heap = h0) (fun _ _ _ _ _ => True) (fun _ U o U' => ∃ v L, o = .returned v ∧ Qrm6 Z a1 p2 p3 i0 b1 b2 k1 k2 xs ys h0 n0 v U'.heap L ∧ FrameEnd U o U' L ({ frames := 0, cells := 0, slots := 0, locals := 0 } : Room).cells ({ frames := 0, cells := 0, slots := 0, locals := 0 } : Room).slots) := by
  refine MetFree.of_bodySF (plainFor_of_name pn_0) hisR ?_
  intro p e s m args below meth c s₁ Bd hml0 hP hK
  obtain ⟨rfl, hZ, hh⟩ := hP
  have hx := Bd.exec
  have hby := Bd.bytes
  have hml : c.maxLocals = 3 := hml0
  have hown : s.vm.findClass "com/example/axiomwright/axiomwright/Arcs" = some m.cls := findClass_of_methodNamed Bd.named
  have hnm := (name_of_methodNamed Bd.named Bd.method).1
  have X0 : Stand p l e ({ frames := 0, cells := 0, slots := 0, locals := 0 } : Room) s m #[(.ref a1), (.int p2), (.int p3)] below meth c s₁ [] 0 0 := Stand.of_body Bd
  have e0 : s₁.heap = h0 := by rw [← hh, Bd.state]; rfl
  have N0 := Fr.nil n0
  have K0 : Keep h0 h0 [a1, b1, b2] := Keep.refl h0 _
  refine own_go (B := s₁.setTop (mkF m 0 #[.val (.ref a1), .val (.int p2), .val (.int p3)] [])) (fun t k => castTop (efrm6 m a1 p2 p3) k) ?_
  refine own_go (A := s₁.setTop (mkF m 0 #[.val (.ref a1), .val (.int p2), .val (.int p3)] [])) (B := s₁.setTop (mkF m 1 #[.val (.ref a1), .val (.int p2), .val (.int p3)] [(.ref a1)])) (fun t k => ?_) ?_
  · show Steps p.tables e below (s₁.setTop (mkF m 0 #[.val (.ref a1), .val (.int p2), .val (.int p3)] [])) _
    refine XS.aloadN X0.here hx rfl (hb hby d6_0) rfl rfl ?_
    exact k
  obtain ⟨T24, X24, e24, st24⟩ := getF X0 hx hZ hown (host := "") (Or.inl (hw _ (List.mem_of_getElem? (i := 19) rfl))) Via.refl e0 P1 (g := (mkF m 1 #[.val (.ref a1), .val (.int p2), .val (.int p3)] [(.ref a1)])) rfl rfl (hb hby d6_1)
  refine own_go st24 ?_
  refine own_go (A := T24.setTop (mkF m 4 #[.val (.ref a1), .val (.int p2), .val (.int p3)] [(.int i0)])) (B := T24.setTop (mkF m 5 #[.val (.ref a1), .val (.int p2), .val (.int p3)] [(.ref a1), (.int i0)])) (fun t k => ?_) ?_
  · show Steps p.tables e below (T24.setTop (mkF m 4 #[.val (.ref a1), .val (.int p2), .val (.int p3)] [(.int i0)])) _
    refine XS.aloadN X24.here hx rfl (hb hby d6_4) rfl rfl ?_
    exact k
  obtain ⟨T25, X25, e25, st25⟩ := getF X24 hx hZ hown (host := "") (Or.inl (hw _ (List.mem_of_getElem? (i := 10) rfl))) Via.refl e24 P2 (g := (mkF m 5 #[.val (.ref a1), .val (.int p2), .val (.int p3)] [(.ref a1), (.int i0)])) rfl rfl (hb hby d6_5)
  refine own_go st25 ?_
  obtain ⟨cl26, Ar26, q26, S26, M26, Ha26, G26⟩ := id P4
  refine own_go (A := T25.setTop (mkF m 8 #[.val (.ref a1), .val (.int p2), .val (.int p3)] [(.ref b1), (.int i0)])) (B := T25.setTop (mkF m 9 #[.val (.ref a1), .val (.int p2), .val (.int p3)] [(.int (16 : Int32)), (.int i0)])) (fun t k => ?_) ?_
  · refine X25.arraylength hx (by rw [e25]; exact Ar26.1) (State.isArrayOf_alike hZ.alike Ar26.2.1) (g := (mkF m 8 #[.val (.ref a1), .val (.int p2), .val (.int p3)] [(.ref b1), (.int i0)])) rfl rfl (hb hby d6_8) _ ?_
    rw [len_of S26 M26]
    exact k
  have hc9_27 : ¬ (i0 = (16 : Int32)) := hne'
  refine own_go (A := T25.setTop (mkF m 9 #[.val (.ref a1), .val (.int p2), .val (.int p3)] [(.int (16 : Int32)), (.int i0)])) (B := T25.setTop (mkF m 47 #[.val (.ref a1), .val (.int p2), .val (.int p3)] [(.ref a1)])) (fun t k => ?_) ?_
  · show Steps p.tables e below (T25.setTop (mkF m 9 #[.val (.ref a1), .val (.int p2), .val (.int p3)] [(.int (16 : Int32)), (.int i0)])) _
    refine XS.icmpYes X25.here hx rfl (pc0 := 9) (pc' := 46) rfl (hb hby d6_9) rfl (feq hc9_27).2 (by decide) (by decide) ?_
    show Steps p.tables e below (T25.setTop (mkF m 46 #[.val (.ref a1), .val (.int p2), .val (.int p3)] [])) _
    refine XS.aloadN X25.here hx rfl (hb hby d6_46) rfl rfl ?_
    exact k
  obtain ⟨T28, X28, e28, st28⟩ := getF X25 hx hZ hown (host := "") (Or.inl (hw _ (List.mem_of_getElem? (i := 10) rfl))) Via.refl e25 P2 (g := (mkF m 47 #[.val (.ref a1), .val (.int p2), .val (.int p3)] [(.ref a1)])) rfl rfl (hb hby d6_47)
  refine own_go st28 ?_
  refine own_go (A := T28.setTop (mkF m 50 #[.val (.ref a1), .val (.int p2), .val (.int p3)] [(.ref b1)])) (B := T28.setTop (mkF m 51 #[.val (.ref a1), .val (.int p2), .val (.int p3)] [(.ref a1), (.ref b1)])) (fun t k => ?_) ?_
  · show Steps p.tables e below (T28.setTop (mkF m 50 #[.val (.ref a1), .val (.int p2), .val (.int p3)] [(.ref b1)])) _
    refine XS.aloadN X28.here hx rfl (hb hby d6_50) rfl rfl ?_
    exact k
  obtain ⟨T29, X29, e29, st29⟩ := getF X28 hx hZ hown (host := "") (Or.inl (hw _ (List.mem_of_getElem? (i := 19) rfl))) Via.refl e28 P1 (g := (mkF m 51 #[.val (.ref a1), .val (.int p2), .val (.int p3)] [(.ref a1), (.ref b1)])) rfl rfl (hb hby d6_51)
  refine own_go st29 ?_
  refine own_go (A := T29.setTop (mkF m 54 #[.val (.ref a1), .val (.int p2), .val (.int p3)] [(.int i0), (.ref b1)])) (B := T29.setTop (mkF m 55 #[.val (.ref a1), .val (.int p2), .val (.int p3)] [(.int p2), (.int i0), (.ref b1)])) (fun t k => ?_) ?_
  · show Steps p.tables e below (T29.setTop (mkF m 54 #[.val (.ref a1), .val (.int p2), .val (.int p3)] [(.int i0), (.ref b1)])) _
    refine XS.iloadN X29.here hx rfl (hb hby d6_54) rfl ?_
    exact k
  obtain ⟨cl30, Ar30, q30, S30, M30, Ha30, G30⟩ := P4
  have hin30 : ¬ (i0 < 0 ∨ cl30.slots.size ≤ (i0).toNatClampNeg) := inb_of S30 ⟨h0', h1'⟩
  obtain ⟨T30, h30, X30, e30, W30, st30⟩ := stI X29 hx hZ e29 Ar30 (j := i0) hin30 (g := (mkF m 55 #[.val (.ref a1), .val (.int p2), .val (.int p3)] [(.int p2), (.int i0), (.ref b1)])) rfl rfl (hb hby d6_55)
  have Q31 : Exa Z h30 a1 "com/example/axiomwright/axiomwright/Arcs" := P0.wr W30
  have Q32 : Fld Z h30 a1 "com/example/axiomwright/axiomwright/Arcs" "size" "I" (.int i0) := P1.other W30 (Or.inl ne_a1_b1)
  have Q33 : Fld Z h30 a1 "com/example/axiomwright/axiomwright/Arcs" "from" "[I" (.ref b1) := P2.other W30 (Or.inl ne_a1_b1)
  have Q34 : Fld Z h30 a1 "com/example/axiomwright/axiomwright/Arcs" "to" "[I" (.ref b2) := P3.other W30 (Or.inl ne_a1_b1)
  have Q35 : Arv Z h30 b2 k2 .int (16 : Int32) ys (.int (0 : Int32)) := P5.other W30 (Ne.symm ne_b1_b2)
  have U30 : Arv Z h30 b1 k1 .int (16 : Int32) (xs.set i0.toNatClampNeg (.int p2)) (.int (0 : Int32)) := Arv.set Ar30 q30 S30 M30 Ha30 G30 rfl W30 i0.toNatClampNeg rfl hx'
  have Z30 : n0 ≤ h30.size := Nat.le_trans Z0 (Keep.of_wr W30).1
  have N30 := Fr.snoc X30 N0 g_b1
  have K30 := K0.wr W30 (Or.inl (List.mem_of_getElem? (i := 1) rfl))
  refine own_go st30 ?_
  refine own_go (A := T30.setTop (mkF m 56 #[.val (.ref a1), .val (.int p2), .val (.int p3)] [])) (B := T30.setTop (mkF m 57 #[.val (.ref a1), .val (.int p2), .val (.int p3)] [(.ref a1)])) (fun t k => ?_) ?_
  · show Steps p.tables e below (T30.setTop (mkF m 56 #[.val (.ref a1), .val (.int p2), .val (.int p3)] [])) _
    refine XS.aloadN X30.here hx rfl (hb hby d6_56) rfl rfl ?_
    exact k
  obtain ⟨T36, X36, e36, st36⟩ := getF X30 hx hZ hown (host := "") (Or.inl (hw _ (List.mem_of_getElem? (i := 12) rfl))) Via.refl e30 Q34 (g := (mkF m 57 #[.val (.ref a1), .val (.int p2), .val (.int p3)] [(.ref a1)])) rfl rfl (hb hby d6_57)
  refine own_go st36 ?_
  refine own_go (A := T36.setTop (mkF m 60 #[.val (.ref a1), .val (.int p2), .val (.int p3)] [(.ref b2)])) (B := T36.setTop (mkF m 62 #[.val (.ref a1), .val (.int p2), .val (.int p3)] [(.ref a1), (.ref a1), (.ref b2)])) (fun t k => ?_) ?_
  · show Steps p.tables e below (T36.setTop (mkF m 60 #[.val (.ref a1), .val (.int p2), .val (.int p3)] [(.ref b2)])) _
    refine XS.aloadN X36.here hx rfl (hb hby d6_60) rfl rfl ?_
    show Steps p.tables e below (T36.setTop (mkF m 61 #[.val (.ref a1), .val (.int p2), .val (.int p3)] [(.ref a1), (.ref b2)])) _
    refine XS.dup X36.here hx rfl (hb hby d6_61) rfl rfl ?_
    exact k
  obtain ⟨T37, X37, e37, st37⟩ := getF X36 hx hZ hown (host := "") (Or.inl (hw _ (List.mem_of_getElem? (i := 19) rfl))) Via.refl e36 Q32 (g := (mkF m 62 #[.val (.ref a1), .val (.int p2), .val (.int p3)] [(.ref a1), (.ref a1), (.ref b2)])) rfl rfl (hb hby d6_62)
  refine own_go st37 ?_
  refine own_go (A := T37.setTop (mkF m 65 #[.val (.ref a1), .val (.int p2), .val (.int p3)] [(.int i0), (.ref a1), (.ref b2)])) (B := T37.setTop (mkF m 68 #[.val (.ref a1), .val (.int p2), .val (.int p3)] [(.int (i0 + (1 : Int32))), (.ref a1), (.int i0), (.ref b2)])) (fun t k => ?_) ?_
  · show Steps p.tables e below (T37.setTop (mkF m 65 #[.val (.ref a1), .val (.int p2), .val (.int p3)] [(.int i0), (.ref a1), (.ref b2)])) _
    refine XS.dupX1 X37.here hx rfl (hb hby d6_65) rfl rfl rfl ?_
    show Steps p.tables e below (T37.setTop (mkF m 66 #[.val (.ref a1), .val (.int p2), .val (.int p3)] [(.int i0), (.ref a1), (.int i0), (.ref b2)])) _
    refine XS.iconst X37.here hx rfl (hb hby d6_66) ?_
    show Steps p.tables e below (T37.setTop (mkF m 67 #[.val (.ref a1), .val (.int p2), .val (.int p3)] [(.int (1 : Int32)), (.int i0), (.ref a1), (.int i0), (.ref b2)])) _
    refine XS.iadd X37.here hx rfl (hb hby d6_67) rfl ?_
    exact k
  obtain ⟨T38, h38, X38, e38, W38, st38⟩ := putF X37 hx hZ hown (host := "") (Or.inl (hw _ (List.mem_of_getElem? (i := 19) rfl))) Via.refl e37 Q32 Q31 (Or.inl (hw _ (List.mem_of_getElem? (i := 20) rfl))) (hw _ (List.mem_of_getElem? (i := 2) rfl)) (ty := .int) (by decide) rfl rfl (g := (mkF m 68 #[.val (.ref a1), .val (.int p2), .val (.int p3)] [(.int (i0 + (1 : Int32))), (.ref a1), (.int i0), (.ref b2)])) rfl rfl (hb hby d6_68)
  have Q39 : Exa Z h38 a1 "com/example/axiomwright/axiomwright/Arcs" := Q31.wr W38
  have Q40 : Fld Z h38 a1 "com/example/axiomwright/axiomwright/Arcs" "from" "[I" (.ref b1) := Q33.other W38 (Or.inr (slot_ne (Or.inl (hw _ (List.mem_of_getElem? (i := 11) rfl))) (Or.inl (hw _ (List.mem_of_getElem? (i := 20) rfl))) (by decide) (t := (.array .int)) (t' := .int) (by decide) (by decide)))
  have Q41 : Fld Z h38 a1 "com/example/axiomwright/axiomwright/Arcs" "to" "[I" (.ref b2) := Q34.other W38 (Or.inr (slot_ne (Or.inl (hw _ (List.mem_of_getElem? (i := 13) rfl))) (Or.inl (hw _ (List.mem_of_getElem? (i := 20) rfl))) (by decide) (t := (.array .int)) (t' := .int) (by decide) (by decide)))
  have Q42 : Arv Z h38 b2 k2 .int (16 : Int32) ys (.int (0 : Int32)) := Q35.other W38 (Ne.symm ne_a1_b2)
  have Q43 : Arv Z h38 b1 k1 .int (16 : Int32) (xs.set i0.toNatClampNeg (.int p2)) (.int (0 : Int32)) := U30.other W38 (Ne.symm ne_a1_b1)
  have U38 : Fld Z h38 a1 "com/example/axiomwright/axiomwright/Arcs" "size" "I" (.int (i0 + (1 : Int32))) := Q32.same W38
  have Z38 : n0 ≤ h38.size := Nat.le_trans Z30 (Keep.of_wr W38).1
  have N38 := Fr.snoc X38 N30 g_a1
  have K38 := K30.wr W38 (Or.inl (List.mem_of_getElem? (i := 0) rfl))
  refine own_go st38 ?_
  refine own_go (A := T38.setTop (mkF m 71 #[.val (.ref a1), .val (.int p2), .val (.int p3)] [(.int i0), (.ref b2)])) (B := T38.setTop (mkF m 72 #[.val (.ref a1), .val (.int p2), .val (.int p3)] [(.int p3), (.int i0), (.ref b2)])) (fun t k => ?_) ?_
  · show Steps p.tables e below (T38.setTop (mkF m 71 #[.val (.ref a1), .val (.int p2), .val (.int p3)] [(.int i0), (.ref b2)])) _
    refine XS.iloadN X38.here hx rfl (hb hby d6_71) rfl ?_
    exact k
  obtain ⟨cl44, Ar44, q44, S44, M44, Ha44, G44⟩ := Q42
  have hin44 : ¬ (i0 < 0 ∨ cl44.slots.size ≤ (i0).toNatClampNeg) := inb_of S44 ⟨h0', h1'⟩
  obtain ⟨T44, h44, X44, e44, W44, st44⟩ := stI X38 hx hZ e38 Ar44 (j := i0) hin44 (g := (mkF m 72 #[.val (.ref a1), .val (.int p2), .val (.int p3)] [(.int p3), (.int i0), (.ref b2)])) rfl rfl (hb hby d6_72)
  have Q45 : Exa Z h44 a1 "com/example/axiomwright/axiomwright/Arcs" := Q39.wr W44
  have Q46 : Fld Z h44 a1 "com/example/axiomwright/axiomwright/Arcs" "from" "[I" (.ref b1) := Q40.other W44 (Or.inl ne_a1_b2)
  have Q47 : Fld Z h44 a1 "com/example/axiomwright/axiomwright/Arcs" "to" "[I" (.ref b2) := Q41.other W44 (Or.inl ne_a1_b2)
  have Q48 : Arv Z h44 b1 k1 .int (16 : Int32) (xs.set i0.toNatClampNeg (.int p2)) (.int (0 : Int32)) := Q43.other W44 ne_b1_b2
  have Q49 : Fld Z h44 a1 "com/example/axiomwright/axiomwright/Arcs" "size" "I" (.int (i0 + (1 : Int32))) := U38.other W44 (Or.inl ne_a1_b2)
  have U44 : Arv Z h44 b2 k2 .int (16 : Int32) (ys.set i0.toNatClampNeg (.int p3)) (.int (0 : Int32)) := Arv.set Ar44 q44 S44 M44 Ha44 G44 rfl W44 i0.toNatClampNeg rfl hy'
  have Z44 : n0 ≤ h44.size := Nat.le_trans Z38 (Keep.of_wr W44).1
  have N44 := Fr.snoc X44 N38 g_b2
  have K44 := K38.wr W44 (Or.inl (List.mem_of_getElem? (i := 2) rfl))
  refine own_go st44 ?_
  obtain ⟨fs, hr, hrun, hended, hW, hsame⟩ := X44.leave (v := none) (fun _ => rfl)
  refine ⟨_, _, ?_, hrun, hended, _, _, rfl, ?_, ⟨_, rfl⟩, hW, hsame.mono (by decide) (by decide)⟩
  · show Steps p.tables e below (T44.setTop (mkF m 73 #[.val (.ref a1), .val (.int p2), .val (.int p3)] [])) _
    exact X44.returnOut hx Bd.returns (hb hby d6_73) hr
  · show Qrm6 Z a1 p2 p3 i0 b1 b2 k1 k2 xs ys h0 n0 _ T44.heap _
    rw [e44]
    exact ⟨rfl, N44, K44, Q49, Q46, Q47, Q48, U44⟩
def Qrm3_0_0 (Z : State) (a1 : Addr) (a2 : Addr) (b1 : Addr) (b2 : Addr) (c1 : Addr) (c2 : Addr) (k1 : ClassId) (k2 : ClassId) (j1 : ClassId) (j2 : ClassId) (x0 : Int32) (x1 : Int32) (x2 : Int32) (x3 : Int32) (x4 : Int32) (x5 : Int32) (x6 : Int32) (x7 : Int32) (x8 : Int32) (x9 : Int32) (x10 : Int32) (x11 : Int32) (x12 : Int32) (x13 : Int32) (x14 : Int32) (x15 : Int32) (y0 : Int32) (y1 : Int32) (y2 : Int32) (y3 : Int32) (y4 : Int32) (y5 : Int32) (y6 : Int32) (y7 : Int32) (y8 : Int32) (y9 : Int32) (y10 : Int32) (y11 : Int32) (y12 : Int32) (y13 : Int32) (y14 : Int32) (y15 : Int32) (u0 : Int32) (u1 : Int32) (u2 : Int32) (u3 : Int32) (u4 : Int32) (u5 : Int32) (u6 : Int32) (u7 : Int32) (u8 : Int32) (u9 : Int32) (u10 : Int32) (u11 : Int32) (u12 : Int32) (u13 : Int32) (u14 : Int32) (u15 : Int32) (v0 : Int32) (v1 : Int32) (v2 : Int32) (v3 : Int32) (v4 : Int32) (v5 : Int32) (v6 : Int32) (v7 : Int32) (v8 : Int32) (v9 : Int32) (v10 : Int32) (v11 : Int32) (v12 : Int32) (v13 : Int32) (v14 : Int32) (v15 : Int32) (h0 : Heap) (n0 : Nat) (v : Option Value) (h : Heap) (L : List Loc) : Prop := v = none ∧ Fr n0 L ∧ Keep h0 h [a1, b1, b2] ∧ Fld Z h a1 "com/example/axiomwright/axiomwright/Arcs" "size" "I" (.int (0 : Int32)) ∧ Fld Z h a1 "com/example/axiomwright/axiomwright/Arcs" "from" "[I" (.ref b1) ∧ Fld Z h a1 "com/example/axiomwright/axiomwright/Arcs" "to" "[I" (.ref b2) ∧ Arv Z h b1 k1 .int (16 : Int32) [(.int x0), (.int x1), (.int x2), (.int x3), (.int x4), (.int x5), (.int x6), (.int x7), (.int x8), (.int x9), (.int x10), (.int x11), (.int x12), (.int x13), (.int x14), (.int x15)] (.int (0 : Int32)) ∧ Arv Z h b2 k2 .int (16 : Int32) [(.int y0), (.int y1), (.int y2), (.int y3), (.int y4), (.int y5), (.int y6), (.int y7), (.int y8), (.int y9), (.int y10), (.int y11), (.int y12), (.int y13), (.int y14), (.int y15)] (.int (0 : Int32))
theorem efrm3_0_0 (m : MethodId) (x0 : Addr) (x1 : Addr) : entryFrame m #[(.ref x0), (.ref x1)] 3 = mkF m 0 #[.val (.ref x0), .val (.ref x1), .unset] [] := by first | (simp [entryFrame, mkF, argsToLocals, Value.category]; done) | rfl
set_option maxRecDepth 65536 in
set_option maxHeartbeats 40000000 in
theorem rm3_0_0 (l : Launch) (Z : State) (a0 : Array Value) (hw : ∀ d ∈ tables_1, d.before a0 Z = true) (ws : List Jvm.Cond) (a1 : Addr) (a2 : Addr) (b1 : Addr) (b2 : Addr) (c1 : Addr) (c2 : Addr) (k1 : ClassId) (k2 : ClassId) (j1 : ClassId) (j2 : ClassId) (x0 : Int32) (x1 : Int32) (x2 : Int32) (x3 : Int32) (x4 : Int32) (x5 : Int32) (x6 : Int32) (x7 : Int32) (x8 : Int32) (x9 : Int32) (x10 : Int32) (x11 : Int32) (x12 : Int32) (x13 : Int32) (x14 : Int32) (x15 : Int32) (y0 : Int32) (y1 : Int32) (y2 : Int32) (y3 : Int32) (y4 : Int32) (y5 : Int32) (y6 : Int32) (y7 : Int32) (y8 : Int32) (y9 : Int32) (y10 : Int32) (y11 : Int32) (y12 : Int32) (y13 : Int32) (y14 : Int32) (y15 : Int32) (u0 : Int32) (u1 : Int32) (u2 : Int32) (u3 : Int32) (u4 : Int32) (u5 : Int32) (u6 : Int32) (u7 : Int32) (u8 : Int32) (u9 : Int32) (u10 : Int32) (u11 : Int32) (u12 : Int32) (u13 : Int32) (u14 : Int32) (u15 : Int32) (v0 : Int32) (v1 : Int32) (v2 : Int32) (v3 : Int32) (v4 : Int32) (v5 : Int32) (v6 : Int32) (v7 : Int32) (v8 : Int32) (v9 : Int32) (v10 : Int32) (v11 : Int32) (v12 : Int32) (v13 : Int32) (v14 : Int32) (v15 : Int32) (h0 : Heap) (n0 : Nat) (Z0 : n0 ≤ h0.size) (P0 : Exa Z h0 a1 "com/example/axiomwright/axiomwright/Arcs") (P1 : Fld Z h0 a1 "com/example/axiomwright/axiomwright/Arcs" "size" "I" (.int (0 : Int32))) (P2 : Fld Z h0 a1 "com/example/axiomwright/axiomwright/Arcs" "from" "[I" (.ref b1)) (P3 : Fld Z h0 a1 "com/example/axiomwright/axiomwright/Arcs" "to" "[I" (.ref b2)) (P4 : Arv Z h0 b1 k1 .int (16 : Int32) [(.int x0), (.int x1), (.int x2), (.int x3), (.int x4), (.int x5), (.int x6), (.int x7), (.int x8), (.int x9), (.int x10), (.int x11), (.int x12), (.int x13), (.int x14), (.int x15)] (.int (0 : Int32))) (P5 : Arv Z h0 b2 k2 .int (16 : Int32) [(.int y0), (.int y1), (.int y2), (.int y3), (.int y4), (.int y5), (.int y6), (.int y7), (.int y8), (.int y9), (.int y10), (.int y11), (.int y12), (.int y13), (.int y14), (.int y15)] (.int (0 : Int32))) (P6 : Fld Z h0 a2 "com/example/axiomwright/axiomwright/Arcs" "size" "I" (.int (0 : Int32))) (P7 : Fld Z h0 a2 "com/example/axiomwright/axiomwright/Arcs" "from" "[I" (.ref c1)) (P8 : Fld Z h0 a2 "com/example/axiomwright/axiomwright/Arcs" "to" "[I" (.ref c2)) (P9 : Arv Z h0 c1 j1 .int (16 : Int32) [(.int u0), (.int u1), (.int u2), (.int u3), (.int u4), (.int u5), (.int u6), (.int u7), (.int u8), (.int u9), (.int u10), (.int u11), (.int u12), (.int u13), (.int u14), (.int u15)] (.int (0 : Int32))) (P10 : Arv Z h0 c2 j2 .int (16 : Int32) [(.int v0), (.int v1), (.int v2), (.int v3), (.int v4), (.int v5), (.int v6), (.int v7), (.int v8), (.int v9), (.int v10), (.int v11), (.int v12), (.int v13), (.int v14), (.int v15)] (.int (0 : Int32))) (g_a1 : n0 ≤ a1) (g_b1 : n0 ≤ b1) (g_b2 : n0 ≤ b2) (ne_a1_b1 : a1 ≠ b1) (ne_a1_b2 : a1 ≠ b2) (ne_b1_b2 : b1 ≠ b2) (ne_a2_a1 : a2 ≠ a1) (ne_a2_b1 : a2 ≠ b1) (ne_a2_b2 : a2 ≠ b2) (ne_c1_a1 : c1 ≠ a1) (ne_c1_b1 : c1 ≠ b1) (ne_c1_b2 : c1 ≠ b2) (ne_c2_a1 : c2 ≠ a1) (ne_c2_b1 : c2 ≠ b1) (ne_c2_b2 : c2 ≠ b2) :
    MetFree l (⟨"com/example/axiomwright/axiomwright/Arcs", "addAll", "(Lcom/example/axiomwright/axiomwright/Arcs;)V"⟩ : MethodName) (head1 (Jvm.Cond.code (⟨"com/example/axiomwright/axiomwright/Arcs", "addAll", "(Lcom/example/axiomwright/axiomwright/Arcs;)V"⟩ : MethodName) prog_2_method_4_code 3 none :: ws) ({ frames := 0, cells := 0, slots := 0, locals := 0 } : Room)) (fun a U => a = #[(.ref a1), (.ref a2)] ∧ Z.Warmed39 U.vm ∧ U.heap = h0) (fun _ _ _ _ _ => True) (fun _ U o U' => ∃ v L, o = .returned v ∧ Qrm3_0_0 Z a1 a2 b1 b2 c1 c2 k1 k2 j1 j2 x0 x1 x2 x3 x4 x5 x6 x7 x8 x9 x10 x11 x12 x13 x14 x15 y0 y1 y2 y3 y4 y5 y6 y7 y8 y9 y10 y11 y12 y13 y14 y15 u0 u1 u2 u3 u4 u5 u6 u7 u8 u9 u10 u11 u12 u13 u14 u15 v0 v1 v2 v3 v4 v5 v6 v7 v8 v9 v10 v11 v12 v13 v14 v15 h0 n0 v U'.heap L ∧ FrameEnd U o U' L ({ frames := 0, cells := 0, slots := 0, locals := 0 } : Room).cells ({ frames := 0, cells := 0, slots := 0, locals := 0 } : Room).slots) := by
  refine MetFree.of_bodySF (plainFor_of_name pn_0) hisR ?_
  intro p e s m args below meth c s₁ Bd hml0 hP hK
  obtain ⟨rfl, hZ, hh⟩ := hP
  have hx := Bd.exec
  have hby := Bd.bytes
  have hml : c.maxLocals = 3 := hml0
  have hown : s.vm.findClass "com/example/axiomwright/axiomwright/Arcs" = some m.cls := findClass_of_methodNamed Bd.named
  have hnm := (name_of_methodNamed Bd.named Bd.method).1
  have X0 : Stand p l e ({ frames := 0, cells := 0, slots := 0, locals := 0 } : Room) s m #[(.ref a1), (.ref a2)] below meth c s₁ [] 0 0 := Stand.of_body Bd
  have e0 : s₁.heap = h0 := by rw [← hh, Bd.state]; rfl
  have N0 := Fr.nil n0
  have K0 : Keep h0 h0 [a1, b1, b2] := Keep.refl h0 _
  refine own_go (B := s₁.setTop (mkF m 0 #[.val (.ref a1), .val (.ref a2), .unset] [])) (fun t k => castTop (efrm3_0_0 m a1 a2) k) ?_
  refine own_go (A := s₁.setTop (mkF m 0 #[.val (.ref a1), .val (.ref a2), .unset] [])) (B := s₁.setTop (mkF m 4 #[.val (.ref a1), .val (.ref a2), .val (.int (0 : Int32))] [(.ref a2), (.int (0 : Int32))])) (fun t k => ?_) ?_
  · show Steps p.tables e below (s₁.setTop (mkF m 0 #[.val (.ref a1), .val (.ref a2), .unset] [])) _
    refine XS.iconst X0.here hx rfl (hb hby d3_0) ?_
    show Steps p.tables e below (s₁.setTop (mkF m 1 #[.val (.ref a1), .val (.ref a2), .unset] [(.int (0 : Int32))])) _
    refine XS.istoreN X0.here hx rfl (hb hby d3_1) rfl (l' := #[.val (.ref a1), .val (.ref a2), .val (.int (0 : Int32))]) rfl ?_
    show Steps p.tables e below (s₁.setTop (mkF m 2 #[.val (.ref a1), .val (.ref a2), .val (.int (0 : Int32))] [])) _
    refine XS.iloadN X0.here hx rfl (hb hby d3_2) rfl ?_
    show Steps p.tables e below (s₁.setTop (mkF m 3 #[.val (.ref a1), .val (.ref a2), .val (.int (0 : Int32))] [(.int (0 : Int32))])) _
    refine XS.aloadN X0.here hx rfl (hb hby d3_3) rfl rfl ?_
    exact k
  obtain ⟨T50, X50, e50, st50⟩ := getF X0 hx hZ hown (host := "") (Or.inl (hw _ (List.mem_of_getElem? (i := 19) rfl))) Via.refl e0 P6 (g := (mkF m 4 #[.val (.ref a1), .val (.ref a2), .val (.int (0 : Int32))] [(.ref a2), (.int (0 : Int32))])) rfl rfl (hb hby d3_4)
  refine own_go st50 ?_
  refine own_go (A := T50.setTop (mkF m 7 #[.val (.ref a1), .val (.ref a2), .val (.int (0 : Int32))] [(.int (0 : Int32)), (.int (0 : Int32))])) (B := T50.setTop (mkF m 32 #[.val (.ref a1), .val (.ref a2), .val (.int (0 : Int32))] [])) (fun t k => ?_) ?_
  · show Steps p.tables e below (T50.setTop (mkF m 7 #[.val (.ref a1), .val (.ref a2), .val (.int (0 : Int32))] [(.int (0 : Int32)), (.int (0 : Int32))])) _
    refine XS.icmpYes X50.here hx rfl (pc0 := 7) (pc' := 32) rfl (hb hby d3_7) rfl (flt Int32.lt_irrefl).2.1 (by decide) (by decide) ?_
    exact k
  obtain ⟨fs, hr, hrun, hended, hW, hsame⟩ := X50.leave (v := none) (fun _ => rfl)
  refine ⟨_, _, ?_, hrun, hended, _, _, rfl, ?_, ⟨_, rfl⟩, hW, hsame.mono (by decide) (by decide)⟩
  · show Steps p.tables e below (T50.setTop (mkF m 32 #[.val (.ref a1), .val (.ref a2), .val (.int (0 : Int32))] [])) _
    exact X50.returnOut hx Bd.returns (hb hby d3_32) hr
  · show Qrm3_0_0 Z a1 a2 b1 b2 c1 c2 k1 k2 j1 j2 x0 x1 x2 x3 x4 x5 x6 x7 x8 x9 x10 x11 x12 x13 x14 x15 y0 y1 y2 y3 y4 y5 y6 y7 y8 y9 y10 y11 y12 y13 y14 y15 u0 u1 u2 u3 u4 u5 u6 u7 u8 u9 u10 u11 u12 u13 u14 u15 v0 v1 v2 v3 v4 v5 v6 v7 v8 v9 v10 v11 v12 v13 v14 v15 h0 n0 _ T50.heap _
    rw [e50]
    exact ⟨rfl, N0, K0, P1, P2, P3, P4, P5⟩
def Qrm3_0_1 (Z : State) (a1 : Addr) (a2 : Addr) (b1 : Addr) (b2 : Addr) (c1 : Addr) (c2 : Addr) (k1 : ClassId) (k2 : ClassId) (j1 : ClassId) (j2 : ClassId) (x0 : Int32) (x1 : Int32) (x2 : Int32) (x3 : Int32) (x4 : Int32) (x5 : Int32) (x6 : Int32) (x7 : Int32) (x8 : Int32) (x9 : Int32) (x10 : Int32) (x11 : Int32) (x12 : Int32) (x13 : Int32) (x14 : Int32) (x15 : Int32) (y0 : Int32) (y1 : Int32) (y2 : Int32) (y3 : Int32) (y4 : Int32) (y5 : Int32) (y6 : Int32) (y7 : Int32) (y8 : Int32) (y9 : Int32) (y10 : Int32) (y11 : Int32) (y12 : Int32) (y13 : Int32) (y14 : Int32) (y15 : Int32) (u0 : Int32) (u1 : Int32) (u2 : Int32) (u3 : Int32) (u4 : Int32) (u5 : Int32) (u6 : Int32) (u7 : Int32) (u8 : Int32) (u9 : Int32) (u10 : Int32) (u11 : Int32) (u12 : Int32) (u13 : Int32) (u14 : Int32) (u15 : Int32) (v0 : Int32) (v1 : Int32) (v2 : Int32) (v3 : Int32) (v4 : Int32) (v5 : Int32) (v6 : Int32) (v7 : Int32) (v8 : Int32) (v9 : Int32) (v10 : Int32) (v11 : Int32) (v12 : Int32) (v13 : Int32) (v14 : Int32) (v15 : Int32) (h0 : Heap) (n0 : Nat) (v : Option Value) (h : Heap) (L : List Loc) : Prop := v = none ∧ Fr n0 L ∧ Keep h0 h [a1, b1, b2] ∧ Fld Z h a1 "com/example/axiomwright/axiomwright/Arcs" "size" "I" (.int (1 : Int32)) ∧ Fld Z h a1 "com/example/axiomwright/axiomwright/Arcs" "from" "[I" (.ref b1) ∧ Fld Z h a1 "com/example/axiomwright/axiomwright/Arcs" "to" "[I" (.ref b2) ∧ Arv Z h b1 k1 .int (16 : Int32) [(.int u0), (.int x1), (.int x2), (.int x3), (.int x4), (.int x5), (.int x6), (.int x7), (.int x8), (.int x9), (.int x10), (.int x11), (.int x12), (.int x13), (.int x14), (.int x15)] (.int (0 : Int32)) ∧ Arv Z h b2 k2 .int (16 : Int32) [(.int v0), (.int y1), (.int y2), (.int y3), (.int y4), (.int y5), (.int y6), (.int y7), (.int y8), (.int y9), (.int y10), (.int y11), (.int y12), (.int y13), (.int y14), (.int y15)] (.int (0 : Int32))
theorem efrm3_0_1 (m : MethodId) (x0 : Addr) (x1 : Addr) : entryFrame m #[(.ref x0), (.ref x1)] 3 = mkF m 0 #[.val (.ref x0), .val (.ref x1), .unset] [] := by first | (simp [entryFrame, mkF, argsToLocals, Value.category]; done) | rfl
set_option maxRecDepth 65536 in
set_option maxHeartbeats 40000000 in
theorem rm3_0_1 (l : Launch) (Z : State) (a0 : Array Value) (hw : ∀ d ∈ tables_1, d.before a0 Z = true) (ws : List Jvm.Cond) (a1 : Addr) (a2 : Addr) (b1 : Addr) (b2 : Addr) (c1 : Addr) (c2 : Addr) (k1 : ClassId) (k2 : ClassId) (j1 : ClassId) (j2 : ClassId) (x0 : Int32) (x1 : Int32) (x2 : Int32) (x3 : Int32) (x4 : Int32) (x5 : Int32) (x6 : Int32) (x7 : Int32) (x8 : Int32) (x9 : Int32) (x10 : Int32) (x11 : Int32) (x12 : Int32) (x13 : Int32) (x14 : Int32) (x15 : Int32) (y0 : Int32) (y1 : Int32) (y2 : Int32) (y3 : Int32) (y4 : Int32) (y5 : Int32) (y6 : Int32) (y7 : Int32) (y8 : Int32) (y9 : Int32) (y10 : Int32) (y11 : Int32) (y12 : Int32) (y13 : Int32) (y14 : Int32) (y15 : Int32) (u0 : Int32) (u1 : Int32) (u2 : Int32) (u3 : Int32) (u4 : Int32) (u5 : Int32) (u6 : Int32) (u7 : Int32) (u8 : Int32) (u9 : Int32) (u10 : Int32) (u11 : Int32) (u12 : Int32) (u13 : Int32) (u14 : Int32) (u15 : Int32) (v0 : Int32) (v1 : Int32) (v2 : Int32) (v3 : Int32) (v4 : Int32) (v5 : Int32) (v6 : Int32) (v7 : Int32) (v8 : Int32) (v9 : Int32) (v10 : Int32) (v11 : Int32) (v12 : Int32) (v13 : Int32) (v14 : Int32) (v15 : Int32) (h0 : Heap) (n0 : Nat) (Z0 : n0 ≤ h0.size) (P0 : Exa Z h0 a1 "com/example/axiomwright/axiomwright/Arcs") (P1 : Fld Z h0 a1 "com/example/axiomwright/axiomwright/Arcs" "size" "I" (.int (0 : Int32))) (P2 : Fld Z h0 a1 "com/example/axiomwright/axiomwright/Arcs" "from" "[I" (.ref b1)) (P3 : Fld Z h0 a1 "com/example/axiomwright/axiomwright/Arcs" "to" "[I" (.ref b2)) (P4 : Arv Z h0 b1 k1 .int (16 : Int32) [(.int x0), (.int x1), (.int x2), (.int x3), (.int x4), (.int x5), (.int x6), (.int x7), (.int x8), (.int x9), (.int x10), (.int x11), (.int x12), (.int x13), (.int x14), (.int x15)] (.int (0 : Int32))) (P5 : Arv Z h0 b2 k2 .int (16 : Int32) [(.int y0), (.int y1), (.int y2), (.int y3), (.int y4), (.int y5), (.int y6), (.int y7), (.int y8), (.int y9), (.int y10), (.int y11), (.int y12), (.int y13), (.int y14), (.int y15)] (.int (0 : Int32))) (P6 : Fld Z h0 a2 "com/example/axiomwright/axiomwright/Arcs" "size" "I" (.int (1 : Int32))) (P7 : Fld Z h0 a2 "com/example/axiomwright/axiomwright/Arcs" "from" "[I" (.ref c1)) (P8 : Fld Z h0 a2 "com/example/axiomwright/axiomwright/Arcs" "to" "[I" (.ref c2)) (P9 : Arv Z h0 c1 j1 .int (16 : Int32) [(.int u0), (.int u1), (.int u2), (.int u3), (.int u4), (.int u5), (.int u6), (.int u7), (.int u8), (.int u9), (.int u10), (.int u11), (.int u12), (.int u13), (.int u14), (.int u15)] (.int (0 : Int32))) (P10 : Arv Z h0 c2 j2 .int (16 : Int32) [(.int v0), (.int v1), (.int v2), (.int v3), (.int v4), (.int v5), (.int v6), (.int v7), (.int v8), (.int v9), (.int v10), (.int v11), (.int v12), (.int v13), (.int v14), (.int v15)] (.int (0 : Int32))) (g_a1 : n0 ≤ a1) (g_b1 : n0 ≤ b1) (g_b2 : n0 ≤ b2) (ne_a1_b1 : a1 ≠ b1) (ne_a1_b2 : a1 ≠ b2) (ne_b1_b2 : b1 ≠ b2) (ne_a2_a1 : a2 ≠ a1) (ne_a2_b1 : a2 ≠ b1) (ne_a2_b2 : a2 ≠ b2) (ne_c1_a1 : c1 ≠ a1) (ne_c1_b1 : c1 ≠ b1) (ne_c1_b2 : c1 ≠ b2) (ne_c2_a1 : c2 ≠ a1) (ne_c2_b1 : c2 ≠ b1) (ne_c2_b2 : c2 ≠ b2) :
    MetFree l (⟨"com/example/axiomwright/axiomwright/Arcs", "addAll", "(Lcom/example/axiomwright/axiomwright/Arcs;)V"⟩ : MethodName) (head1 (Jvm.Cond.code (⟨"com/example/axiomwright/axiomwright/Arcs", "addAll", "(Lcom/example/axiomwright/axiomwright/Arcs;)V"⟩ : MethodName) prog_2_method_4_code 3 none :: ws) ({ frames := 1, cells := 0, slots := 0, locals := 14 } : Room)) (fun a U => a = #[(.ref a1), (.ref a2)] ∧ Z.Warmed39 U.vm ∧ U.heap = h0) (fun _ _ _ _ _ => True) (fun _ U o U' => ∃ v L, o = .returned v ∧ Qrm3_0_1 Z a1 a2 b1 b2 c1 c2 k1 k2 j1 j2 x0 x1 x2 x3 x4 x5 x6 x7 x8 x9 x10 x11 x12 x13 x14 x15 y0 y1 y2 y3 y4 y5 y6 y7 y8 y9 y10 y11 y12 y13 y14 y15 u0 u1 u2 u3 u4 u5 u6 u7 u8 u9 u10 u11 u12 u13 u14 u15 v0 v1 v2 v3 v4 v5 v6 v7 v8 v9 v10 v11 v12 v13 v14 v15 h0 n0 v U'.heap L ∧ FrameEnd U o U' L ({ frames := 1, cells := 0, slots := 0, locals := 14 } : Room).cells ({ frames := 1, cells := 0, slots := 0, locals := 14 } : Room).slots) := by
  refine MetFree.of_bodySF (plainFor_of_name pn_0) hisR ?_
  intro p e s m args below meth c s₁ Bd hml0 hP hK
  obtain ⟨rfl, hZ, hh⟩ := hP
  have hx := Bd.exec
  have hby := Bd.bytes
  have hml : c.maxLocals = 3 := hml0
  have hown : s.vm.findClass "com/example/axiomwright/axiomwright/Arcs" = some m.cls := findClass_of_methodNamed Bd.named
  have hnm := (name_of_methodNamed Bd.named Bd.method).1
  have X0 : Stand p l e ({ frames := 1, cells := 0, slots := 0, locals := 14 } : Room) s m #[(.ref a1), (.ref a2)] below meth c s₁ [] 0 0 := Stand.of_body Bd
  have e0 : s₁.heap = h0 := by rw [← hh, Bd.state]; rfl
  have N0 := Fr.nil n0
  have K0 : Keep h0 h0 [a1, b1, b2] := Keep.refl h0 _
  refine own_go (B := s₁.setTop (mkF m 0 #[.val (.ref a1), .val (.ref a2), .unset] [])) (fun t k => castTop (efrm3_0_1 m a1 a2) k) ?_
  refine own_go (A := s₁.setTop (mkF m 0 #[.val (.ref a1), .val (.ref a2), .unset] [])) (B := s₁.setTop (mkF m 4 #[.val (.ref a1), .val (.ref a2), .val (.int (0 : Int32))] [(.ref a2), (.int (0 : Int32))])) (fun t k => ?_) ?_
  · show Steps p.tables e below (s₁.setTop (mkF m 0 #[.val (.ref a1), .val (.ref a2), .unset] [])) _
    refine XS.iconst X0.here hx rfl (hb hby d3_0) ?_
    show Steps p.tables e below (s₁.setTop (mkF m 1 #[.val (.ref a1), .val (.ref a2), .unset] [(.int (0 : Int32))])) _
    refine XS.istoreN X0.here hx rfl (hb hby d3_1) rfl (l' := #[.val (.ref a1), .val (.ref a2), .val (.int (0 : Int32))]) rfl ?_
    show Steps p.tables e below (s₁.setTop (mkF m 2 #[.val (.ref a1), .val (.ref a2), .val (.int (0 : Int32))] [])) _
    refine XS.iloadN X0.here hx rfl (hb hby d3_2) rfl ?_
    show Steps p.tables e below (s₁.setTop (mkF m 3 #[.val (.ref a1), .val (.ref a2), .val (.int (0 : Int32))] [(.int (0 : Int32))])) _
    refine XS.aloadN X0.here hx rfl (hb hby d3_3) rfl rfl ?_
    exact k
  obtain ⟨T52, X52, e52, st52⟩ := getF X0 hx hZ hown (host := "") (Or.inl (hw _ (List.mem_of_getElem? (i := 19) rfl))) Via.refl e0 P6 (g := (mkF m 4 #[.val (.ref a1), .val (.ref a2), .val (.int (0 : Int32))] [(.ref a2), (.int (0 : Int32))])) rfl rfl (hb hby d3_4)
  refine own_go st52 ?_
  refine own_go (A := T52.setTop (mkF m 7 #[.val (.ref a1), .val (.ref a2), .val (.int (0 : Int32))] [(.int (1 : Int32)), (.int (0 : Int32))])) (B := T52.setTop (mkF m 12 #[.val (.ref a1), .val (.ref a2), .val (.int (0 : Int32))] [(.ref a2), (.ref a1)])) (fun t k => ?_) ?_
  · show Steps p.tables e below (T52.setTop (mkF m 7 #[.val (.ref a1), .val (.ref a2), .val (.int (0 : Int32))] [(.int (1 : Int32)), (.int (0 : Int32))])) _
    refine XS.icmpNo X52.here hx rfl (hb hby d3_7) rfl (tlt (by decide : ((0 : Int32) < (1 : Int32)))).2.1 ?_
    show Steps p.tables e below (T52.setTop (mkF m 10 #[.val (.ref a1), .val (.ref a2), .val (.int (0 : Int32))] [])) _
    refine XS.aloadN X52.here hx rfl (hb hby d3_10) rfl rfl ?_
    show Steps p.tables e below (T52.setTop (mkF m 11 #[.val (.ref a1), .val (.ref a2), .val (.int (0 : Int32))] [(.ref a1)])) _
    refine XS.aloadN X52.here hx rfl (hb hby d3_11) rfl rfl ?_
    exact k
  obtain ⟨T54, X54, e54, st54⟩ := getF X52 hx hZ hown (host := "") (Or.inl (hw _ (List.mem_of_getElem? (i := 10) rfl))) Via.refl e52 P7 (g := (mkF m 12 #[.val (.ref a1), .val (.ref a2), .val (.int (0 : Int32))] [(.ref a2), (.ref a1)])) rfl rfl (hb hby d3_12)
  refine own_go st54 ?_
  refine own_go (A := T54.setTop (mkF m 15 #[.val (.ref a1), .val (.ref a2), .val (.int (0 : Int32))] [(.ref c1), (.ref a1)])) (B := T54.setTop (mkF m 16 #[.val (.ref a1), .val (.ref a2), .val (.int (0 : Int32))] [(.int (0 : Int32)), (.ref c1), (.ref a1)])) (fun t k => ?_) ?_
  · show Steps p.tables e below (T54.setTop (mkF m 15 #[.val (.ref a1), .val (.ref a2), .val (.int (0 : Int32))] [(.ref c1), (.ref a1)])) _
    refine XS.iloadN X54.here hx rfl (hb hby d3_15) rfl ?_
    exact k
  obtain ⟨cl55, Ar55, q55, S55, M55, Ha55, G55⟩ := id P9
  have hin55 : ¬ ((0 : Int32) < 0 ∨ cl55.slots.size ≤ ((0 : Int32)).toNatClampNeg) := inb_of S55 ⟨by decide, by decide⟩
  refine own_go (A := T54.setTop (mkF m 16 #[.val (.ref a1), .val (.ref a2), .val (.int (0 : Int32))] [(.int (0 : Int32)), (.ref c1), (.ref a1)])) (X54.iaload hx (j := (0 : Int32)) (v := (.int u0)) (by rw [e54]; exact Ar55.1) (State.isArrayOf_alike hZ.alike Ar55.2.1) Ar55.2.2 hin55 (Has.at Ha55 hin55 rfl) (g := (mkF m 16 #[.val (.ref a1), .val (.ref a2), .val (.int (0 : Int32))] [(.int (0 : Int32)), (.ref c1), (.ref a1)])) rfl rfl (hb hby d3_16)) ?_
  refine own_go (A := T54.setTop (mkF m 17 #[.val (.ref a1), .val (.ref a2), .val (.int (0 : Int32))] [(.int u0), (.ref a1)])) (B := T54.setTop (mkF m 18 #[.val (.ref a1), .val (.ref a2), .val (.int (0 : Int32))] [(.ref a2), (.int u0), (.ref a1)])) (fun t k => ?_) ?_
  · show Steps p.tables e below (T54.setTop (mkF m 17 #[.val (.ref a1), .val (.ref a2), .val (.int (0 : Int32))] [(.int u0), (.ref a1)])) _
    refine XS.aloadN X54.here hx rfl (hb hby d3_17) rfl rfl ?_
    exact k
  obtain ⟨T56, X56, e56, st56⟩ := getF X54 hx hZ hown (host := "") (Or.inl (hw _ (List.mem_of_getElem? (i := 12) rfl))) Via.refl e54 P8 (g := (mkF m 18 #[.val (.ref a1), .val (.ref a2), .val (.int (0 : Int32))] [(.ref a2), (.int u0), (.ref a1)])) rfl rfl (hb hby d3_18)
  refine own_go st56 ?_
  refine own_go (A := T56.setTop (mkF m 21 #[.val (.ref a1), .val (.ref a2), .val (.int (0 : Int32))] [(.ref c2), (.int u0), (.ref a1)])) (B := T56.setTop (mkF m 22 #[.val (.ref a1), .val (.ref a2), .val (.int (0 : Int32))] [(.int (0 : Int32)), (.ref c2), (.int u0), (.ref a1)])) (fun t k => ?_) ?_
  · show Steps p.tables e below (T56.setTop (mkF m 21 #[.val (.ref a1), .val (.ref a2), .val (.int (0 : Int32))] [(.ref c2), (.int u0), (.ref a1)])) _
    refine XS.iloadN X56.here hx rfl (hb hby d3_21) rfl ?_
    exact k
  obtain ⟨cl57, Ar57, q57, S57, M57, Ha57, G57⟩ := id P10
  have hin57 : ¬ ((0 : Int32) < 0 ∨ cl57.slots.size ≤ ((0 : Int32)).toNatClampNeg) := inb_of S57 ⟨by decide, by decide⟩
  refine own_go (A := T56.setTop (mkF m 22 #[.val (.ref a1), .val (.ref a2), .val (.int (0 : Int32))] [(.int (0 : Int32)), (.ref c2), (.int u0), (.ref a1)])) (X56.iaload hx (j := (0 : Int32)) (v := (.int v0)) (by rw [e56]; exact Ar57.1) (State.isArrayOf_alike hZ.alike Ar57.2.1) Ar57.2.2 hin57 (Has.at Ha57 hin57 rfl) (g := (mkF m 22 #[.val (.ref a1), .val (.ref a2), .val (.int (0 : Int32))] [(.int (0 : Int32)), (.ref c2), (.int u0), (.ref a1)])) rfl rfl (hb hby d3_22)) ?_
  obtain ⟨cq58, kq58, q58a, q58b, q58c⟩ := isOf hZ e56 P0
  obtain ⟨_, _, ⟨T58, L58, k58, n58⟩, -, X58, ⟨Lc58, hQ58, l58, y58, z58⟩, st58⟩ := X56.virtualBack hx (y := (⟨"com/example/axiomwright/axiomwright/Arcs", "add", "(II)V"⟩ : MethodName)) (z := (⟨"com/example/axiomwright/axiomwright/Arcs", "add", "(II)V"⟩ : MethodName)) hown (mvT hZ (hw _ (List.mem_of_getElem? (i := 35) rfl))) (mvT hZ (hw _ (List.mem_of_getElem? (i := 31) rfl))) (notFace_of_selects (args := #[]) (mvT hZ (hw _ (List.mem_of_getElem? (i := 33) rfl)))) (mvT hZ (hw _ (List.mem_of_getElem? (i := 33) rfl))) (mvT hZ (hw _ (List.mem_of_getElem? (i := 32) rfl))) (by decide) (backOf (W := 0) (rm6 l Z a0 hw [] a1 u0 v0 (0 : Int32) b1 b2 k1 k2 [(.int x0), (.int x1), (.int x2), (.int x3), (.int x4), (.int x5), (.int x6), (.int x7), (.int x8), (.int x9), (.int x10), (.int x11), (.int x12), (.int x13), (.int x14), (.int x15)] [(.int y0), (.int y1), (.int y2), (.int y3), (.int y4), (.int y5), (.int y6), (.int y7), (.int y8), (.int y9), (.int y10), (.int y11), (.int y12), (.int y13), (.int y14), (.int y15)] h0 n0 Z0 P0 P1 P2 P3 P4 P5 g_a1 g_b1 g_b2 ne_a1_b1 ne_a1_b2 ne_b1_b2 (by decide) (by decide) (by decide) (Nat.le_of_ble_eq_true rfl) (Nat.le_of_ble_eq_true rfl)) hZ (hw _ (List.mem_of_getElem? (i := 34) rfl)) (hw _ (List.mem_of_getElem? (i := 3) rfl)) (by decide) (by decide)) q58a q58c (g := (mkF m 23 #[.val (.ref a1), .val (.ref a2), .val (.int (0 : Int32))] [(.int v0), (.int u0), (.ref a1)])) rfl (by rw [hml]; rfl) (Steps.refl _) (argsL := [(.int u0), (.int v0)]) (rest := []) (lenOf pd_0 rfl) rfl (by show 2 * 0 + _ ≤ _; exact Nat.le_of_eq rfl) (hb hby d3_23) (fun _ _ => ⟨rfl, e56, (by decide : 0 + 0 ≤ _), (by decide : 0 + 0 ≤ _)⟩)
  dsimp only [Pt.U, Pt.locs, Pt.cells, Pt.slots] at X58 l58 y58 z58 st58 hQ58
  subst l58 y58 z58
  obtain ⟨rfl, Nq58, Kq58, U58_0, U58_1, U58_2, U58_3, U58_4⟩ := hQ58
  have Q59 : Exa Z T58.heap a1 "com/example/axiomwright/axiomwright/Arcs" := P0.keep Kq58
  have Q60 : Fld Z T58.heap a2 "com/example/axiomwright/axiomwright/Arcs" "size" "I" (.int (1 : Int32)) := P6.keep Kq58 (ninS ne_a2_a1 (ninS ne_a2_b1 (ninS ne_a2_b2 nin0)))
  have Q61 : Fld Z T58.heap a2 "com/example/axiomwright/axiomwright/Arcs" "from" "[I" (.ref c1) := P7.keep Kq58 (ninS ne_a2_a1 (ninS ne_a2_b1 (ninS ne_a2_b2 nin0)))
  have Q62 : Fld Z T58.heap a2 "com/example/axiomwright/axiomwright/Arcs" "to" "[I" (.ref c2) := P8.keep Kq58 (ninS ne_a2_a1 (ninS ne_a2_b1 (ninS ne_a2_b2 nin0)))
  have Q63 : Arv Z T58.heap c1 j1 .int (16 : Int32) [(.int u0), (.int u1), (.int u2), (.int u3), (.int u4), (.int u5), (.int u6), (.int u7), (.int u8), (.int u9), (.int u10), (.int u11), (.int u12), (.int u13), (.int u14), (.int u15)] (.int (0 : Int32)) := P9.keep Kq58 (ninS ne_c1_a1 (ninS ne_c1_b1 (ninS ne_c1_b2 nin0)))
  have Q64 : Arv Z T58.heap c2 j2 .int (16 : Int32) [(.int v0), (.int v1), (.int v2), (.int v3), (.int v4), (.int v5), (.int v6), (.int v7), (.int v8), (.int v9), (.int v10), (.int v11), (.int v12), (.int v13), (.int v14), (.int v15)] (.int (0 : Int32)) := P10.keep Kq58 (ninS ne_c2_a1 (ninS ne_c2_b1 (ninS ne_c2_b2 nin0)))
  have U58_0n : Fld Z T58.heap a1 "com/example/axiomwright/axiomwright/Arcs" "size" "I" (.int (1 : Int32)) := U58_0
  have U58_3n : Arv Z T58.heap b1 k1 .int (16 : Int32) [(.int u0), (.int x1), (.int x2), (.int x3), (.int x4), (.int x5), (.int x6), (.int x7), (.int x8), (.int x9), (.int x10), (.int x11), (.int x12), (.int x13), (.int x14), (.int x15)] (.int (0 : Int32)) := U58_3
  have U58_4n : Arv Z T58.heap b2 k2 .int (16 : Int32) [(.int v0), (.int y1), (.int y2), (.int y3), (.int y4), (.int y5), (.int y6), (.int y7), (.int y8), (.int y9), (.int y10), (.int y11), (.int y12), (.int y13), (.int y14), (.int y15)] (.int (0 : Int32)) := U58_4
  have Z58 : n0 ≤ T58.heap.size := Nat.le_trans Z0 Kq58.1
  have K58 : Keep h0 T58.heap [a1, b1, b2] := K0.trans Kq58 (allS (Or.inl (List.mem_of_getElem? (i := 0) rfl)) (allS (Or.inl (List.mem_of_getElem? (i := 1) rfl)) (allS (Or.inl (List.mem_of_getElem? (i := 2) rfl)) all0)))
  have N58 := Fr.app N0 Nq58
  refine own_go (A := _) (B := T58.setTop (mkF m 26 #[.val (.ref a1), .val (.ref a2), .val (.int (0 : Int32))] [])) (fun t k => st58.trans k) ?_
  refine own_go (A := T58.setTop (mkF m 26 #[.val (.ref a1), .val (.ref a2), .val (.int (0 : Int32))] [])) (B := T58.setTop (mkF m 4 #[.val (.ref a1), .val (.ref a2), .val (.int (1 : Int32))] [(.ref a2), (.int (1 : Int32))])) (fun t k => ?_) ?_
  · show Steps p.tables e below (T58.setTop (mkF m 26 #[.val (.ref a1), .val (.ref a2), .val (.int (0 : Int32))] [])) _
    refine XS.iinc X58.here hx rfl (hb hby d3_26) rfl (l' := #[.val (.ref a1), .val (.ref a2), .val (.int (1 : Int32))]) rfl ?_
    show Steps p.tables e below (T58.setTop (mkF m 29 #[.val (.ref a1), .val (.ref a2), .val (.int (1 : Int32))] [])) _
    refine XS.goto X58.here hx rfl (pc0 := 29) (pc' := 2) rfl (hb hby d3_29) (by decide) (by decide) ?_
    show Steps p.tables e below (T58.setTop (mkF m 2 #[.val (.ref a1), .val (.ref a2), .val (.int (1 : Int32))] [])) _
    refine XS.iloadN X58.here hx rfl (hb hby d3_2) rfl ?_
    show Steps p.tables e below (T58.setTop (mkF m 3 #[.val (.ref a1), .val (.ref a2), .val (.int (1 : Int32))] [(.int (1 : Int32))])) _
    refine XS.aloadN X58.here hx rfl (hb hby d3_3) rfl rfl ?_
    exact k
  obtain ⟨T65, X65, e65, st65⟩ := getF X58 hx hZ hown (host := "") (Or.inl (hw _ (List.mem_of_getElem? (i := 19) rfl))) Via.refl rfl Q60 (g := (mkF m 4 #[.val (.ref a1), .val (.ref a2), .val (.int (1 : Int32))] [(.ref a2), (.int (1 : Int32))])) rfl rfl (hb hby d3_4)
  refine own_go st65 ?_
  refine own_go (A := T65.setTop (mkF m 7 #[.val (.ref a1), .val (.ref a2), .val (.int (1 : Int32))] [(.int (1 : Int32)), (.int (1 : Int32))])) (B := T65.setTop (mkF m 32 #[.val (.ref a1), .val (.ref a2), .val (.int (1 : Int32))] [])) (fun t k => ?_) ?_
  · show Steps p.tables e below (T65.setTop (mkF m 7 #[.val (.ref a1), .val (.ref a2), .val (.int (1 : Int32))] [(.int (1 : Int32)), (.int (1 : Int32))])) _
    refine XS.icmpYes X65.here hx rfl (pc0 := 7) (pc' := 32) rfl (hb hby d3_7) rfl (flt Int32.lt_irrefl).2.1 (by decide) (by decide) ?_
    exact k
  obtain ⟨fs, hr, hrun, hended, hW, hsame⟩ := X65.leave (v := none) (fun _ => rfl)
  refine ⟨_, _, ?_, hrun, hended, _, _, rfl, ?_, ⟨_, rfl⟩, hW, hsame.mono (by decide) (by decide)⟩
  · show Steps p.tables e below (T65.setTop (mkF m 32 #[.val (.ref a1), .val (.ref a2), .val (.int (1 : Int32))] [])) _
    exact X65.returnOut hx Bd.returns (hb hby d3_32) hr
  · show Qrm3_0_1 Z a1 a2 b1 b2 c1 c2 k1 k2 j1 j2 x0 x1 x2 x3 x4 x5 x6 x7 x8 x9 x10 x11 x12 x13 x14 x15 y0 y1 y2 y3 y4 y5 y6 y7 y8 y9 y10 y11 y12 y13 y14 y15 u0 u1 u2 u3 u4 u5 u6 u7 u8 u9 u10 u11 u12 u13 u14 u15 v0 v1 v2 v3 v4 v5 v6 v7 v8 v9 v10 v11 v12 v13 v14 v15 h0 n0 _ T65.heap _
    rw [e65]
    exact ⟨rfl, N58, K58, U58_0n, U58_1, U58_2, U58_3n, U58_4n⟩
def Qrm3_0_2 (Z : State) (a1 : Addr) (a2 : Addr) (b1 : Addr) (b2 : Addr) (c1 : Addr) (c2 : Addr) (k1 : ClassId) (k2 : ClassId) (j1 : ClassId) (j2 : ClassId) (x0 : Int32) (x1 : Int32) (x2 : Int32) (x3 : Int32) (x4 : Int32) (x5 : Int32) (x6 : Int32) (x7 : Int32) (x8 : Int32) (x9 : Int32) (x10 : Int32) (x11 : Int32) (x12 : Int32) (x13 : Int32) (x14 : Int32) (x15 : Int32) (y0 : Int32) (y1 : Int32) (y2 : Int32) (y3 : Int32) (y4 : Int32) (y5 : Int32) (y6 : Int32) (y7 : Int32) (y8 : Int32) (y9 : Int32) (y10 : Int32) (y11 : Int32) (y12 : Int32) (y13 : Int32) (y14 : Int32) (y15 : Int32) (u0 : Int32) (u1 : Int32) (u2 : Int32) (u3 : Int32) (u4 : Int32) (u5 : Int32) (u6 : Int32) (u7 : Int32) (u8 : Int32) (u9 : Int32) (u10 : Int32) (u11 : Int32) (u12 : Int32) (u13 : Int32) (u14 : Int32) (u15 : Int32) (v0 : Int32) (v1 : Int32) (v2 : Int32) (v3 : Int32) (v4 : Int32) (v5 : Int32) (v6 : Int32) (v7 : Int32) (v8 : Int32) (v9 : Int32) (v10 : Int32) (v11 : Int32) (v12 : Int32) (v13 : Int32) (v14 : Int32) (v15 : Int32) (h0 : Heap) (n0 : Nat) (v : Option Value) (h : Heap) (L : List Loc) : Prop := v = none ∧ Fr n0 L ∧ Keep h0 h [a1, b1, b2] ∧ Fld Z h a1 "com/example/axiomwright/axiomwright/Arcs" "size" "I" (.int (2 : Int32)) ∧ Fld Z h a1 "com/example/axiomwright/axiomwright/Arcs" "from" "[I" (.ref b1) ∧ Fld Z h a1 "com/example/axiomwright/axiomwright/Arcs" "to" "[I" (.ref b2) ∧ Arv Z h b1 k1 .int (16 : Int32) [(.int u0), (.int u1), (.int x2), (.int x3), (.int x4), (.int x5), (.int x6), (.int x7), (.int x8), (.int x9), (.int x10), (.int x11), (.int x12), (.int x13), (.int x14), (.int x15)] (.int (0 : Int32)) ∧ Arv Z h b2 k2 .int (16 : Int32) [(.int v0), (.int v1), (.int y2), (.int y3), (.int y4), (.int y5), (.int y6), (.int y7), (.int y8), (.int y9), (.int y10), (.int y11), (.int y12), (.int y13), (.int y14), (.int y15)] (.int (0 : Int32))
theorem efrm3_0_2 (m : MethodId) (x0 : Addr) (x1 : Addr) : entryFrame m #[(.ref x0), (.ref x1)] 3 = mkF m 0 #[.val (.ref x0), .val (.ref x1), .unset] [] := by first | (simp [entryFrame, mkF, argsToLocals, Value.category]; done) | rfl
set_option maxRecDepth 65536 in
set_option maxHeartbeats 40000000 in
theorem rm3_0_2 (l : Launch) (Z : State) (a0 : Array Value) (hw : ∀ d ∈ tables_1, d.before a0 Z = true) (ws : List Jvm.Cond) (a1 : Addr) (a2 : Addr) (b1 : Addr) (b2 : Addr) (c1 : Addr) (c2 : Addr) (k1 : ClassId) (k2 : ClassId) (j1 : ClassId) (j2 : ClassId) (x0 : Int32) (x1 : Int32) (x2 : Int32) (x3 : Int32) (x4 : Int32) (x5 : Int32) (x6 : Int32) (x7 : Int32) (x8 : Int32) (x9 : Int32) (x10 : Int32) (x11 : Int32) (x12 : Int32) (x13 : Int32) (x14 : Int32) (x15 : Int32) (y0 : Int32) (y1 : Int32) (y2 : Int32) (y3 : Int32) (y4 : Int32) (y5 : Int32) (y6 : Int32) (y7 : Int32) (y8 : Int32) (y9 : Int32) (y10 : Int32) (y11 : Int32) (y12 : Int32) (y13 : Int32) (y14 : Int32) (y15 : Int32) (u0 : Int32) (u1 : Int32) (u2 : Int32) (u3 : Int32) (u4 : Int32) (u5 : Int32) (u6 : Int32) (u7 : Int32) (u8 : Int32) (u9 : Int32) (u10 : Int32) (u11 : Int32) (u12 : Int32) (u13 : Int32) (u14 : Int32) (u15 : Int32) (v0 : Int32) (v1 : Int32) (v2 : Int32) (v3 : Int32) (v4 : Int32) (v5 : Int32) (v6 : Int32) (v7 : Int32) (v8 : Int32) (v9 : Int32) (v10 : Int32) (v11 : Int32) (v12 : Int32) (v13 : Int32) (v14 : Int32) (v15 : Int32) (h0 : Heap) (n0 : Nat) (Z0 : n0 ≤ h0.size) (P0 : Exa Z h0 a1 "com/example/axiomwright/axiomwright/Arcs") (P1 : Fld Z h0 a1 "com/example/axiomwright/axiomwright/Arcs" "size" "I" (.int (0 : Int32))) (P2 : Fld Z h0 a1 "com/example/axiomwright/axiomwright/Arcs" "from" "[I" (.ref b1)) (P3 : Fld Z h0 a1 "com/example/axiomwright/axiomwright/Arcs" "to" "[I" (.ref b2)) (P4 : Arv Z h0 b1 k1 .int (16 : Int32) [(.int x0), (.int x1), (.int x2), (.int x3), (.int x4), (.int x5), (.int x6), (.int x7), (.int x8), (.int x9), (.int x10), (.int x11), (.int x12), (.int x13), (.int x14), (.int x15)] (.int (0 : Int32))) (P5 : Arv Z h0 b2 k2 .int (16 : Int32) [(.int y0), (.int y1), (.int y2), (.int y3), (.int y4), (.int y5), (.int y6), (.int y7), (.int y8), (.int y9), (.int y10), (.int y11), (.int y12), (.int y13), (.int y14), (.int y15)] (.int (0 : Int32))) (P6 : Fld Z h0 a2 "com/example/axiomwright/axiomwright/Arcs" "size" "I" (.int (2 : Int32))) (P7 : Fld Z h0 a2 "com/example/axiomwright/axiomwright/Arcs" "from" "[I" (.ref c1)) (P8 : Fld Z h0 a2 "com/example/axiomwright/axiomwright/Arcs" "to" "[I" (.ref c2)) (P9 : Arv Z h0 c1 j1 .int (16 : Int32) [(.int u0), (.int u1), (.int u2), (.int u3), (.int u4), (.int u5), (.int u6), (.int u7), (.int u8), (.int u9), (.int u10), (.int u11), (.int u12), (.int u13), (.int u14), (.int u15)] (.int (0 : Int32))) (P10 : Arv Z h0 c2 j2 .int (16 : Int32) [(.int v0), (.int v1), (.int v2), (.int v3), (.int v4), (.int v5), (.int v6), (.int v7), (.int v8), (.int v9), (.int v10), (.int v11), (.int v12), (.int v13), (.int v14), (.int v15)] (.int (0 : Int32))) (g_a1 : n0 ≤ a1) (g_b1 : n0 ≤ b1) (g_b2 : n0 ≤ b2) (ne_a1_b1 : a1 ≠ b1) (ne_a1_b2 : a1 ≠ b2) (ne_b1_b2 : b1 ≠ b2) (ne_a2_a1 : a2 ≠ a1) (ne_a2_b1 : a2 ≠ b1) (ne_a2_b2 : a2 ≠ b2) (ne_c1_a1 : c1 ≠ a1) (ne_c1_b1 : c1 ≠ b1) (ne_c1_b2 : c1 ≠ b2) (ne_c2_a1 : c2 ≠ a1) (ne_c2_b1 : c2 ≠ b1) (ne_c2_b2 : c2 ≠ b2) :
    MetFree l (⟨"com/example/axiomwright/axiomwright/Arcs", "addAll", "(Lcom/example/axiomwright/axiomwright/Arcs;)V"⟩ : MethodName) (head1 (Jvm.Cond.code (⟨"com/example/axiomwright/axiomwright/Arcs", "addAll", "(Lcom/example/axiomwright/axiomwright/Arcs;)V"⟩ : MethodName) prog_2_method_4_code 3 none :: ws) ({ frames := 1, cells := 0, slots := 0, locals := 14 } : Room)) (fun a U => a = #[(.ref a1), (.ref a2)] ∧ Z.Warmed39 U.vm ∧ U.heap = h0) (fun _ _ _ _ _ => True) (fun _ U o U' => ∃ v L, o = .returned v ∧ Qrm3_0_2 Z a1 a2 b1 b2 c1 c2 k1 k2 j1 j2 x0 x1 x2 x3 x4 x5 x6 x7 x8 x9 x10 x11 x12 x13 x14 x15 y0 y1 y2 y3 y4 y5 y6 y7 y8 y9 y10 y11 y12 y13 y14 y15 u0 u1 u2 u3 u4 u5 u6 u7 u8 u9 u10 u11 u12 u13 u14 u15 v0 v1 v2 v3 v4 v5 v6 v7 v8 v9 v10 v11 v12 v13 v14 v15 h0 n0 v U'.heap L ∧ FrameEnd U o U' L ({ frames := 1, cells := 0, slots := 0, locals := 14 } : Room).cells ({ frames := 1, cells := 0, slots := 0, locals := 14 } : Room).slots) := by
  refine MetFree.of_bodySF (plainFor_of_name pn_0) hisR ?_
  intro p e s m args below meth c s₁ Bd hml0 hP hK
  obtain ⟨rfl, hZ, hh⟩ := hP
  have hx := Bd.exec
  have hby := Bd.bytes
  have hml : c.maxLocals = 3 := hml0
  have hown : s.vm.findClass "com/example/axiomwright/axiomwright/Arcs" = some m.cls := findClass_of_methodNamed Bd.named
  have hnm := (name_of_methodNamed Bd.named Bd.method).1
  have X0 : Stand p l e ({ frames := 1, cells := 0, slots := 0, locals := 14 } : Room) s m #[(.ref a1), (.ref a2)] below meth c s₁ [] 0 0 := Stand.of_body Bd
  have e0 : s₁.heap = h0 := by rw [← hh, Bd.state]; rfl
  have N0 := Fr.nil n0
  have K0 : Keep h0 h0 [a1, b1, b2] := Keep.refl h0 _
  refine own_go (B := s₁.setTop (mkF m 0 #[.val (.ref a1), .val (.ref a2), .unset] [])) (fun t k => castTop (efrm3_0_2 m a1 a2) k) ?_
  refine own_go (A := s₁.setTop (mkF m 0 #[.val (.ref a1), .val (.ref a2), .unset] [])) (B := s₁.setTop (mkF m 4 #[.val (.ref a1), .val (.ref a2), .val (.int (0 : Int32))] [(.ref a2), (.int (0 : Int32))])) (fun t k => ?_) ?_
  · show Steps p.tables e below (s₁.setTop (mkF m 0 #[.val (.ref a1), .val (.ref a2), .unset] [])) _
    refine XS.iconst X0.here hx rfl (hb hby d3_0) ?_
    show Steps p.tables e below (s₁.setTop (mkF m 1 #[.val (.ref a1), .val (.ref a2), .unset] [(.int (0 : Int32))])) _
    refine XS.istoreN X0.here hx rfl (hb hby d3_1) rfl (l' := #[.val (.ref a1), .val (.ref a2), .val (.int (0 : Int32))]) rfl ?_
    show Steps p.tables e below (s₁.setTop (mkF m 2 #[.val (.ref a1), .val (.ref a2), .val (.int (0 : Int32))] [])) _
    refine XS.iloadN X0.here hx rfl (hb hby d3_2) rfl ?_
    show Steps p.tables e below (s₁.setTop (mkF m 3 #[.val (.ref a1), .val (.ref a2), .val (.int (0 : Int32))] [(.int (0 : Int32))])) _
    refine XS.aloadN X0.here hx rfl (hb hby d3_3) rfl rfl ?_
    exact k
  obtain ⟨T67, X67, e67, st67⟩ := getF X0 hx hZ hown (host := "") (Or.inl (hw _ (List.mem_of_getElem? (i := 19) rfl))) Via.refl e0 P6 (g := (mkF m 4 #[.val (.ref a1), .val (.ref a2), .val (.int (0 : Int32))] [(.ref a2), (.int (0 : Int32))])) rfl rfl (hb hby d3_4)
  refine own_go st67 ?_
  refine own_go (A := T67.setTop (mkF m 7 #[.val (.ref a1), .val (.ref a2), .val (.int (0 : Int32))] [(.int (2 : Int32)), (.int (0 : Int32))])) (B := T67.setTop (mkF m 12 #[.val (.ref a1), .val (.ref a2), .val (.int (0 : Int32))] [(.ref a2), (.ref a1)])) (fun t k => ?_) ?_
  · show Steps p.tables e below (T67.setTop (mkF m 7 #[.val (.ref a1), .val (.ref a2), .val (.int (0 : Int32))] [(.int (2 : Int32)), (.int (0 : Int32))])) _
    refine XS.icmpNo X67.here hx rfl (hb hby d3_7) rfl (tlt (by decide : ((0 : Int32) < (2 : Int32)))).2.1 ?_
    show Steps p.tables e below (T67.setTop (mkF m 10 #[.val (.ref a1), .val (.ref a2), .val (.int (0 : Int32))] [])) _
    refine XS.aloadN X67.here hx rfl (hb hby d3_10) rfl rfl ?_
    show Steps p.tables e below (T67.setTop (mkF m 11 #[.val (.ref a1), .val (.ref a2), .val (.int (0 : Int32))] [(.ref a1)])) _
    refine XS.aloadN X67.here hx rfl (hb hby d3_11) rfl rfl ?_
    exact k
  obtain ⟨T69, X69, e69, st69⟩ := getF X67 hx hZ hown (host := "") (Or.inl (hw _ (List.mem_of_getElem? (i := 10) rfl))) Via.refl e67 P7 (g := (mkF m 12 #[.val (.ref a1), .val (.ref a2), .val (.int (0 : Int32))] [(.ref a2), (.ref a1)])) rfl rfl (hb hby d3_12)
  refine own_go st69 ?_
  refine own_go (A := T69.setTop (mkF m 15 #[.val (.ref a1), .val (.ref a2), .val (.int (0 : Int32))] [(.ref c1), (.ref a1)])) (B := T69.setTop (mkF m 16 #[.val (.ref a1), .val (.ref a2), .val (.int (0 : Int32))] [(.int (0 : Int32)), (.ref c1), (.ref a1)])) (fun t k => ?_) ?_
  · show Steps p.tables e below (T69.setTop (mkF m 15 #[.val (.ref a1), .val (.ref a2), .val (.int (0 : Int32))] [(.ref c1), (.ref a1)])) _
    refine XS.iloadN X69.here hx rfl (hb hby d3_15) rfl ?_
    exact k
  obtain ⟨cl70, Ar70, q70, S70, M70, Ha70, G70⟩ := id P9
  have hin70 : ¬ ((0 : Int32) < 0 ∨ cl70.slots.size ≤ ((0 : Int32)).toNatClampNeg) := inb_of S70 ⟨by decide, by decide⟩
  refine own_go (A := T69.setTop (mkF m 16 #[.val (.ref a1), .val (.ref a2), .val (.int (0 : Int32))] [(.int (0 : Int32)), (.ref c1), (.ref a1)])) (X69.iaload hx (j := (0 : Int32)) (v := (.int u0)) (by rw [e69]; exact Ar70.1) (State.isArrayOf_alike hZ.alike Ar70.2.1) Ar70.2.2 hin70 (Has.at Ha70 hin70 rfl) (g := (mkF m 16 #[.val (.ref a1), .val (.ref a2), .val (.int (0 : Int32))] [(.int (0 : Int32)), (.ref c1), (.ref a1)])) rfl rfl (hb hby d3_16)) ?_
  refine own_go (A := T69.setTop (mkF m 17 #[.val (.ref a1), .val (.ref a2), .val (.int (0 : Int32))] [(.int u0), (.ref a1)])) (B := T69.setTop (mkF m 18 #[.val (.ref a1), .val (.ref a2), .val (.int (0 : Int32))] [(.ref a2), (.int u0), (.ref a1)])) (fun t k => ?_) ?_
  · show Steps p.tables e below (T69.setTop (mkF m 17 #[.val (.ref a1), .val (.ref a2), .val (.int (0 : Int32))] [(.int u0), (.ref a1)])) _
    refine XS.aloadN X69.here hx rfl (hb hby d3_17) rfl rfl ?_
    exact k
  obtain ⟨T71, X71, e71, st71⟩ := getF X69 hx hZ hown (host := "") (Or.inl (hw _ (List.mem_of_getElem? (i := 12) rfl))) Via.refl e69 P8 (g := (mkF m 18 #[.val (.ref a1), .val (.ref a2), .val (.int (0 : Int32))] [(.ref a2), (.int u0), (.ref a1)])) rfl rfl (hb hby d3_18)
  refine own_go st71 ?_
  refine own_go (A := T71.setTop (mkF m 21 #[.val (.ref a1), .val (.ref a2), .val (.int (0 : Int32))] [(.ref c2), (.int u0), (.ref a1)])) (B := T71.setTop (mkF m 22 #[.val (.ref a1), .val (.ref a2), .val (.int (0 : Int32))] [(.int (0 : Int32)), (.ref c2), (.int u0), (.ref a1)])) (fun t k => ?_) ?_
  · show Steps p.tables e below (T71.setTop (mkF m 21 #[.val (.ref a1), .val (.ref a2), .val (.int (0 : Int32))] [(.ref c2), (.int u0), (.ref a1)])) _
    refine XS.iloadN X71.here hx rfl (hb hby d3_21) rfl ?_
    exact k
  obtain ⟨cl72, Ar72, q72, S72, M72, Ha72, G72⟩ := id P10
  have hin72 : ¬ ((0 : Int32) < 0 ∨ cl72.slots.size ≤ ((0 : Int32)).toNatClampNeg) := inb_of S72 ⟨by decide, by decide⟩
  refine own_go (A := T71.setTop (mkF m 22 #[.val (.ref a1), .val (.ref a2), .val (.int (0 : Int32))] [(.int (0 : Int32)), (.ref c2), (.int u0), (.ref a1)])) (X71.iaload hx (j := (0 : Int32)) (v := (.int v0)) (by rw [e71]; exact Ar72.1) (State.isArrayOf_alike hZ.alike Ar72.2.1) Ar72.2.2 hin72 (Has.at Ha72 hin72 rfl) (g := (mkF m 22 #[.val (.ref a1), .val (.ref a2), .val (.int (0 : Int32))] [(.int (0 : Int32)), (.ref c2), (.int u0), (.ref a1)])) rfl rfl (hb hby d3_22)) ?_
  obtain ⟨cq73, kq73, q73a, q73b, q73c⟩ := isOf hZ e71 P0
  obtain ⟨_, _, ⟨T73, L73, k73, n73⟩, -, X73, ⟨Lc73, hQ73, l73, y73, z73⟩, st73⟩ := X71.virtualBack hx (y := (⟨"com/example/axiomwright/axiomwright/Arcs", "add", "(II)V"⟩ : MethodName)) (z := (⟨"com/example/axiomwright/axiomwright/Arcs", "add", "(II)V"⟩ : MethodName)) hown (mvT hZ (hw _ (List.mem_of_getElem? (i := 35) rfl))) (mvT hZ (hw _ (List.mem_of_getElem? (i := 31) rfl))) (notFace_of_selects (args := #[]) (mvT hZ (hw _ (List.mem_of_getElem? (i := 33) rfl)))) (mvT hZ (hw _ (List.mem_of_getElem? (i := 33) rfl))) (mvT hZ (hw _ (List.mem_of_getElem? (i := 32) rfl))) (by decide) (backOf (W := 0) (rm6 l Z a0 hw [] a1 u0 v0 (0 : Int32) b1 b2 k1 k2 [(.int x0), (.int x1), (.int x2), (.int x3), (.int x4), (.int x5), (.int x6), (.int x7), (.int x8), (.int x9), (.int x10), (.int x11), (.int x12), (.int x13), (.int x14), (.int x15)] [(.int y0), (.int y1), (.int y2), (.int y3), (.int y4), (.int y5), (.int y6), (.int y7), (.int y8), (.int y9), (.int y10), (.int y11), (.int y12), (.int y13), (.int y14), (.int y15)] h0 n0 Z0 P0 P1 P2 P3 P4 P5 g_a1 g_b1 g_b2 ne_a1_b1 ne_a1_b2 ne_b1_b2 (by decide) (by decide) (by decide) (Nat.le_of_ble_eq_true rfl) (Nat.le_of_ble_eq_true rfl)) hZ (hw _ (List.mem_of_getElem? (i := 34) rfl)) (hw _ (List.mem_of_getElem? (i := 3) rfl)) (by decide) (by decide)) q73a q73c (g := (mkF m 23 #[.val (.ref a1), .val (.ref a2), .val (.int (0 : Int32))] [(.int v0), (.int u0), (.ref a1)])) rfl (by rw [hml]; rfl) (Steps.refl _) (argsL := [(.int u0), (.int v0)]) (rest := []) (lenOf pd_0 rfl) rfl (by show 2 * 0 + _ ≤ _; exact Nat.le_of_eq rfl) (hb hby d3_23) (fun _ _ => ⟨rfl, e71, (by decide : 0 + 0 ≤ _), (by decide : 0 + 0 ≤ _)⟩)
  dsimp only [Pt.U, Pt.locs, Pt.cells, Pt.slots] at X73 l73 y73 z73 st73 hQ73
  subst l73 y73 z73
  obtain ⟨rfl, Nq73, Kq73, U73_0, U73_1, U73_2, U73_3, U73_4⟩ := hQ73
  have Q74 : Exa Z T73.heap a1 "com/example/axiomwright/axiomwright/Arcs" := P0.keep Kq73
  have Q75 : Fld Z T73.heap a2 "com/example/axiomwright/axiomwright/Arcs" "size" "I" (.int (2 : Int32)) := P6.keep Kq73 (ninS ne_a2_a1 (ninS ne_a2_b1 (ninS ne_a2_b2 nin0)))
  have Q76 : Fld Z T73.heap a2 "com/example/axiomwright/axiomwright/Arcs" "from" "[I" (.ref c1) := P7.keep Kq73 (ninS ne_a2_a1 (ninS ne_a2_b1 (ninS ne_a2_b2 nin0)))
  have Q77 : Fld Z T73.heap a2 "com/example/axiomwright/axiomwright/Arcs" "to" "[I" (.ref c2) := P8.keep Kq73 (ninS ne_a2_a1 (ninS ne_a2_b1 (ninS ne_a2_b2 nin0)))
  have Q78 : Arv Z T73.heap c1 j1 .int (16 : Int32) [(.int u0), (.int u1), (.int u2), (.int u3), (.int u4), (.int u5), (.int u6), (.int u7), (.int u8), (.int u9), (.int u10), (.int u11), (.int u12), (.int u13), (.int u14), (.int u15)] (.int (0 : Int32)) := P9.keep Kq73 (ninS ne_c1_a1 (ninS ne_c1_b1 (ninS ne_c1_b2 nin0)))
  have Q79 : Arv Z T73.heap c2 j2 .int (16 : Int32) [(.int v0), (.int v1), (.int v2), (.int v3), (.int v4), (.int v5), (.int v6), (.int v7), (.int v8), (.int v9), (.int v10), (.int v11), (.int v12), (.int v13), (.int v14), (.int v15)] (.int (0 : Int32)) := P10.keep Kq73 (ninS ne_c2_a1 (ninS ne_c2_b1 (ninS ne_c2_b2 nin0)))
  have U73_0n : Fld Z T73.heap a1 "com/example/axiomwright/axiomwright/Arcs" "size" "I" (.int (1 : Int32)) := U73_0
  have U73_3n : Arv Z T73.heap b1 k1 .int (16 : Int32) [(.int u0), (.int x1), (.int x2), (.int x3), (.int x4), (.int x5), (.int x6), (.int x7), (.int x8), (.int x9), (.int x10), (.int x11), (.int x12), (.int x13), (.int x14), (.int x15)] (.int (0 : Int32)) := U73_3
  have U73_4n : Arv Z T73.heap b2 k2 .int (16 : Int32) [(.int v0), (.int y1), (.int y2), (.int y3), (.int y4), (.int y5), (.int y6), (.int y7), (.int y8), (.int y9), (.int y10), (.int y11), (.int y12), (.int y13), (.int y14), (.int y15)] (.int (0 : Int32)) := U73_4
  have Z73 : n0 ≤ T73.heap.size := Nat.le_trans Z0 Kq73.1
  have K73 : Keep h0 T73.heap [a1, b1, b2] := K0.trans Kq73 (allS (Or.inl (List.mem_of_getElem? (i := 0) rfl)) (allS (Or.inl (List.mem_of_getElem? (i := 1) rfl)) (allS (Or.inl (List.mem_of_getElem? (i := 2) rfl)) all0)))
  have N73 := Fr.app N0 Nq73
  refine own_go (A := _) (B := T73.setTop (mkF m 26 #[.val (.ref a1), .val (.ref a2), .val (.int (0 : Int32))] [])) (fun t k => st73.trans k) ?_
  refine own_go (A := T73.setTop (mkF m 26 #[.val (.ref a1), .val (.ref a2), .val (.int (0 : Int32))] [])) (B := T73.setTop (mkF m 4 #[.val (.ref a1), .val (.ref a2), .val (.int (1 : Int32))] [(.ref a2), (.int (1 : Int32))])) (fun t k => ?_) ?_
  · show Steps p.tables e below (T73.setTop (mkF m 26 #[.val (.ref a1), .val (.ref a2), .val (.int (0 : Int32))] [])) _
    refine XS.iinc X73.here hx rfl (hb hby d3_26) rfl (l' := #[.val (.ref a1), .val (.ref a2), .val (.int (1 : Int32))]) rfl ?_
    show Steps p.tables e below (T73.setTop (mkF m 29 #[.val (.ref a1), .val (.ref a2), .val (.int (1 : Int32))] [])) _
    refine XS.goto X73.here hx rfl (pc0 := 29) (pc' := 2) rfl (hb hby d3_29) (by decide) (by decide) ?_
    show Steps p.tables e below (T73.setTop (mkF m 2 #[.val (.ref a1), .val (.ref a2), .val (.int (1 : Int32))] [])) _
    refine XS.iloadN X73.here hx rfl (hb hby d3_2) rfl ?_
    show Steps p.tables e below (T73.setTop (mkF m 3 #[.val (.ref a1), .val (.ref a2), .val (.int (1 : Int32))] [(.int (1 : Int32))])) _
    refine XS.aloadN X73.here hx rfl (hb hby d3_3) rfl rfl ?_
    exact k
  obtain ⟨T80, X80, e80, st80⟩ := getF X73 hx hZ hown (host := "") (Or.inl (hw _ (List.mem_of_getElem? (i := 19) rfl))) Via.refl rfl Q75 (g := (mkF m 4 #[.val (.ref a1), .val (.ref a2), .val (.int (1 : Int32))] [(.ref a2), (.int (1 : Int32))])) rfl rfl (hb hby d3_4)
  refine own_go st80 ?_
  refine own_go (A := T80.setTop (mkF m 7 #[.val (.ref a1), .val (.ref a2), .val (.int (1 : Int32))] [(.int (2 : Int32)), (.int (1 : Int32))])) (B := T80.setTop (mkF m 12 #[.val (.ref a1), .val (.ref a2), .val (.int (1 : Int32))] [(.ref a2), (.ref a1)])) (fun t k => ?_) ?_
  · show Steps p.tables e below (T80.setTop (mkF m 7 #[.val (.ref a1), .val (.ref a2), .val (.int (1 : Int32))] [(.int (2 : Int32)), (.int (1 : Int32))])) _
    refine XS.icmpNo X80.here hx rfl (hb hby d3_7) rfl (tlt (by decide : ((1 : Int32) < (2 : Int32)))).2.1 ?_
    show Steps p.tables e below (T80.setTop (mkF m 10 #[.val (.ref a1), .val (.ref a2), .val (.int (1 : Int32))] [])) _
    refine XS.aloadN X80.here hx rfl (hb hby d3_10) rfl rfl ?_
    show Steps p.tables e below (T80.setTop (mkF m 11 #[.val (.ref a1), .val (.ref a2), .val (.int (1 : Int32))] [(.ref a1)])) _
    refine XS.aloadN X80.here hx rfl (hb hby d3_11) rfl rfl ?_
    exact k
  obtain ⟨T82, X82, e82, st82⟩ := getF X80 hx hZ hown (host := "") (Or.inl (hw _ (List.mem_of_getElem? (i := 10) rfl))) Via.refl e80 Q76 (g := (mkF m 12 #[.val (.ref a1), .val (.ref a2), .val (.int (1 : Int32))] [(.ref a2), (.ref a1)])) rfl rfl (hb hby d3_12)
  refine own_go st82 ?_
  refine own_go (A := T82.setTop (mkF m 15 #[.val (.ref a1), .val (.ref a2), .val (.int (1 : Int32))] [(.ref c1), (.ref a1)])) (B := T82.setTop (mkF m 16 #[.val (.ref a1), .val (.ref a2), .val (.int (1 : Int32))] [(.int (1 : Int32)), (.ref c1), (.ref a1)])) (fun t k => ?_) ?_
  · show Steps p.tables e below (T82.setTop (mkF m 15 #[.val (.ref a1), .val (.ref a2), .val (.int (1 : Int32))] [(.ref c1), (.ref a1)])) _
    refine XS.iloadN X82.here hx rfl (hb hby d3_15) rfl ?_
    exact k
  obtain ⟨cl83, Ar83, q83, S83, M83, Ha83, G83⟩ := id Q78
  have hin83 : ¬ ((1 : Int32) < 0 ∨ cl83.slots.size ≤ ((1 : Int32)).toNatClampNeg) := inb_of S83 ⟨by decide, by decide⟩
  refine own_go (A := T82.setTop (mkF m 16 #[.val (.ref a1), .val (.ref a2), .val (.int (1 : Int32))] [(.int (1 : Int32)), (.ref c1), (.ref a1)])) (X82.iaload hx (j := (1 : Int32)) (v := (.int u1)) (by rw [e82]; exact Ar83.1) (State.isArrayOf_alike hZ.alike Ar83.2.1) Ar83.2.2 hin83 (Has.at Ha83 hin83 rfl) (g := (mkF m 16 #[.val (.ref a1), .val (.ref a2), .val (.int (1 : Int32))] [(.int (1 : Int32)), (.ref c1), (.ref a1)])) rfl rfl (hb hby d3_16)) ?_
  refine own_go (A := T82.setTop (mkF m 17 #[.val (.ref a1), .val (.ref a2), .val (.int (1 : Int32))] [(.int u1), (.ref a1)])) (B := T82.setTop (mkF m 18 #[.val (.ref a1), .val (.ref a2), .val (.int (1 : Int32))] [(.ref a2), (.int u1), (.ref a1)])) (fun t k => ?_) ?_
  · show Steps p.tables e below (T82.setTop (mkF m 17 #[.val (.ref a1), .val (.ref a2), .val (.int (1 : Int32))] [(.int u1), (.ref a1)])) _
    refine XS.aloadN X82.here hx rfl (hb hby d3_17) rfl rfl ?_
    exact k
  obtain ⟨T84, X84, e84, st84⟩ := getF X82 hx hZ hown (host := "") (Or.inl (hw _ (List.mem_of_getElem? (i := 12) rfl))) Via.refl e82 Q77 (g := (mkF m 18 #[.val (.ref a1), .val (.ref a2), .val (.int (1 : Int32))] [(.ref a2), (.int u1), (.ref a1)])) rfl rfl (hb hby d3_18)
  refine own_go st84 ?_
  refine own_go (A := T84.setTop (mkF m 21 #[.val (.ref a1), .val (.ref a2), .val (.int (1 : Int32))] [(.ref c2), (.int u1), (.ref a1)])) (B := T84.setTop (mkF m 22 #[.val (.ref a1), .val (.ref a2), .val (.int (1 : Int32))] [(.int (1 : Int32)), (.ref c2), (.int u1), (.ref a1)])) (fun t k => ?_) ?_
  · show Steps p.tables e below (T84.setTop (mkF m 21 #[.val (.ref a1), .val (.ref a2), .val (.int (1 : Int32))] [(.ref c2), (.int u1), (.ref a1)])) _
    refine XS.iloadN X84.here hx rfl (hb hby d3_21) rfl ?_
    exact k
  obtain ⟨cl85, Ar85, q85, S85, M85, Ha85, G85⟩ := id Q79
  have hin85 : ¬ ((1 : Int32) < 0 ∨ cl85.slots.size ≤ ((1 : Int32)).toNatClampNeg) := inb_of S85 ⟨by decide, by decide⟩
  refine own_go (A := T84.setTop (mkF m 22 #[.val (.ref a1), .val (.ref a2), .val (.int (1 : Int32))] [(.int (1 : Int32)), (.ref c2), (.int u1), (.ref a1)])) (X84.iaload hx (j := (1 : Int32)) (v := (.int v1)) (by rw [e84]; exact Ar85.1) (State.isArrayOf_alike hZ.alike Ar85.2.1) Ar85.2.2 hin85 (Has.at Ha85 hin85 rfl) (g := (mkF m 22 #[.val (.ref a1), .val (.ref a2), .val (.int (1 : Int32))] [(.int (1 : Int32)), (.ref c2), (.int u1), (.ref a1)])) rfl rfl (hb hby d3_22)) ?_
  obtain ⟨cq86, kq86, q86a, q86b, q86c⟩ := isOf hZ e84 Q74
  obtain ⟨_, _, ⟨T86, L86, k86, n86⟩, -, X86, ⟨Lc86, hQ86, l86, y86, z86⟩, st86⟩ := X84.virtualBack hx (y := (⟨"com/example/axiomwright/axiomwright/Arcs", "add", "(II)V"⟩ : MethodName)) (z := (⟨"com/example/axiomwright/axiomwright/Arcs", "add", "(II)V"⟩ : MethodName)) hown (mvT hZ (hw _ (List.mem_of_getElem? (i := 35) rfl))) (mvT hZ (hw _ (List.mem_of_getElem? (i := 31) rfl))) (notFace_of_selects (args := #[]) (mvT hZ (hw _ (List.mem_of_getElem? (i := 33) rfl)))) (mvT hZ (hw _ (List.mem_of_getElem? (i := 33) rfl))) (mvT hZ (hw _ (List.mem_of_getElem? (i := 32) rfl))) (by decide) (backOf (W := 0) (rm6 l Z a0 hw [] a1 u1 v1 (1 : Int32) b1 b2 k1 k2 [(.int u0), (.int x1), (.int x2), (.int x3), (.int x4), (.int x5), (.int x6), (.int x7), (.int x8), (.int x9), (.int x10), (.int x11), (.int x12), (.int x13), (.int x14), (.int x15)] [(.int v0), (.int y1), (.int y2), (.int y3), (.int y4), (.int y5), (.int y6), (.int y7), (.int y8), (.int y9), (.int y10), (.int y11), (.int y12), (.int y13), (.int y14), (.int y15)] T73.heap n0 Z73 Q74 U73_0n U73_1 U73_2 U73_3n U73_4n g_a1 g_b1 g_b2 ne_a1_b1 ne_a1_b2 ne_b1_b2 (by decide) (by decide) (by decide) (Nat.le_of_ble_eq_true rfl) (Nat.le_of_ble_eq_true rfl)) hZ (hw _ (List.mem_of_getElem? (i := 34) rfl)) (hw _ (List.mem_of_getElem? (i := 3) rfl)) (by decide) (by decide)) q86a q86c (g := (mkF m 23 #[.val (.ref a1), .val (.ref a2), .val (.int (1 : Int32))] [(.int v1), (.int u1), (.ref a1)])) rfl (by rw [hml]; rfl) (Steps.refl _) (argsL := [(.int u1), (.int v1)]) (rest := []) (lenOf pd_0 rfl) rfl (by show 2 * 0 + _ ≤ _; exact Nat.le_of_eq rfl) (hb hby d3_23) (fun _ _ => ⟨rfl, e84, (by decide : 0 + 0 ≤ _), (by decide : 0 + 0 ≤ _)⟩)
  dsimp only [Pt.U, Pt.locs, Pt.cells, Pt.slots] at X86 l86 y86 z86 st86 hQ86
  subst l86 y86 z86
  obtain ⟨rfl, Nq86, Kq86, U86_0, U86_1, U86_2, U86_3, U86_4⟩ := hQ86
  have Q87 : Exa Z T86.heap a1 "com/example/axiomwright/axiomwright/Arcs" := Q74.keep Kq86
  have Q88 : Fld Z T86.heap a2 "com/example/axiomwright/axiomwright/Arcs" "size" "I" (.int (2 : Int32)) := Q75.keep Kq86 (ninS ne_a2_a1 (ninS ne_a2_b1 (ninS ne_a2_b2 nin0)))
  have Q89 : Fld Z T86.heap a2 "com/example/axiomwright/axiomwright/Arcs" "from" "[I" (.ref c1) := Q76.keep Kq86 (ninS ne_a2_a1 (ninS ne_a2_b1 (ninS ne_a2_b2 nin0)))
  have Q90 : Fld Z T86.heap a2 "com/example/axiomwright/axiomwright/Arcs" "to" "[I" (.ref c2) := Q77.keep Kq86 (ninS ne_a2_a1 (ninS ne_a2_b1 (ninS ne_a2_b2 nin0)))
  have Q91 : Arv Z T86.heap c1 j1 .int (16 : Int32) [(.int u0), (.int u1), (.int u2), (.int u3), (.int u4), (.int u5), (.int u6), (.int u7), (.int u8), (.int u9), (.int u10), (.int u11), (.int u12), (.int u13), (.int u14), (.int u15)] (.int (0 : Int32)) := Q78.keep Kq86 (ninS ne_c1_a1 (ninS ne_c1_b1 (ninS ne_c1_b2 nin0)))
  have Q92 : Arv Z T86.heap c2 j2 .int (16 : Int32) [(.int v0), (.int v1), (.int v2), (.int v3), (.int v4), (.int v5), (.int v6), (.int v7), (.int v8), (.int v9), (.int v10), (.int v11), (.int v12), (.int v13), (.int v14), (.int v15)] (.int (0 : Int32)) := Q79.keep Kq86 (ninS ne_c2_a1 (ninS ne_c2_b1 (ninS ne_c2_b2 nin0)))
  have U86_0n : Fld Z T86.heap a1 "com/example/axiomwright/axiomwright/Arcs" "size" "I" (.int (2 : Int32)) := U86_0
  have U86_3n : Arv Z T86.heap b1 k1 .int (16 : Int32) [(.int u0), (.int u1), (.int x2), (.int x3), (.int x4), (.int x5), (.int x6), (.int x7), (.int x8), (.int x9), (.int x10), (.int x11), (.int x12), (.int x13), (.int x14), (.int x15)] (.int (0 : Int32)) := U86_3
  have U86_4n : Arv Z T86.heap b2 k2 .int (16 : Int32) [(.int v0), (.int v1), (.int y2), (.int y3), (.int y4), (.int y5), (.int y6), (.int y7), (.int y8), (.int y9), (.int y10), (.int y11), (.int y12), (.int y13), (.int y14), (.int y15)] (.int (0 : Int32)) := U86_4
  have Z86 : n0 ≤ T86.heap.size := Nat.le_trans Z73 Kq86.1
  have K86 : Keep h0 T86.heap [a1, b1, b2] := K73.trans Kq86 (allS (Or.inl (List.mem_of_getElem? (i := 0) rfl)) (allS (Or.inl (List.mem_of_getElem? (i := 1) rfl)) (allS (Or.inl (List.mem_of_getElem? (i := 2) rfl)) all0)))
  have N86 := Fr.app N73 Nq86
  refine own_go (A := _) (B := T86.setTop (mkF m 26 #[.val (.ref a1), .val (.ref a2), .val (.int (1 : Int32))] [])) (fun t k => st86.trans k) ?_
  refine own_go (A := T86.setTop (mkF m 26 #[.val (.ref a1), .val (.ref a2), .val (.int (1 : Int32))] [])) (B := T86.setTop (mkF m 4 #[.val (.ref a1), .val (.ref a2), .val (.int (2 : Int32))] [(.ref a2), (.int (2 : Int32))])) (fun t k => ?_) ?_
  · show Steps p.tables e below (T86.setTop (mkF m 26 #[.val (.ref a1), .val (.ref a2), .val (.int (1 : Int32))] [])) _
    refine XS.iinc X86.here hx rfl (hb hby d3_26) rfl (l' := #[.val (.ref a1), .val (.ref a2), .val (.int (2 : Int32))]) rfl ?_
    show Steps p.tables e below (T86.setTop (mkF m 29 #[.val (.ref a1), .val (.ref a2), .val (.int (2 : Int32))] [])) _
    refine XS.goto X86.here hx rfl (pc0 := 29) (pc' := 2) rfl (hb hby d3_29) (by decide) (by decide) ?_
    show Steps p.tables e below (T86.setTop (mkF m 2 #[.val (.ref a1), .val (.ref a2), .val (.int (2 : Int32))] [])) _
    refine XS.iloadN X86.here hx rfl (hb hby d3_2) rfl ?_
    show Steps p.tables e below (T86.setTop (mkF m 3 #[.val (.ref a1), .val (.ref a2), .val (.int (2 : Int32))] [(.int (2 : Int32))])) _
    refine XS.aloadN X86.here hx rfl (hb hby d3_3) rfl rfl ?_
    exact k
  obtain ⟨T93, X93, e93, st93⟩ := getF X86 hx hZ hown (host := "") (Or.inl (hw _ (List.mem_of_getElem? (i := 19) rfl))) Via.refl rfl Q88 (g := (mkF m 4 #[.val (.ref a1), .val (.ref a2), .val (.int (2 : Int32))] [(.ref a2), (.int (2 : Int32))])) rfl rfl (hb hby d3_4)
  refine own_go st93 ?_
  refine own_go (A := T93.setTop (mkF m 7 #[.val (.ref a1), .val (.ref a2), .val (.int (2 : Int32))] [(.int (2 : Int32)), (.int (2 : Int32))])) (B := T93.setTop (mkF m 32 #[.val (.ref a1), .val (.ref a2), .val (.int (2 : Int32))] [])) (fun t k => ?_) ?_
  · show Steps p.tables e below (T93.setTop (mkF m 7 #[.val (.ref a1), .val (.ref a2), .val (.int (2 : Int32))] [(.int (2 : Int32)), (.int (2 : Int32))])) _
    refine XS.icmpYes X93.here hx rfl (pc0 := 7) (pc' := 32) rfl (hb hby d3_7) rfl (flt Int32.lt_irrefl).2.1 (by decide) (by decide) ?_
    exact k
  obtain ⟨fs, hr, hrun, hended, hW, hsame⟩ := X93.leave (v := none) (fun _ => rfl)
  refine ⟨_, _, ?_, hrun, hended, _, _, rfl, ?_, ⟨_, rfl⟩, hW, hsame.mono (by decide) (by decide)⟩
  · show Steps p.tables e below (T93.setTop (mkF m 32 #[.val (.ref a1), .val (.ref a2), .val (.int (2 : Int32))] [])) _
    exact X93.returnOut hx Bd.returns (hb hby d3_32) hr
  · show Qrm3_0_2 Z a1 a2 b1 b2 c1 c2 k1 k2 j1 j2 x0 x1 x2 x3 x4 x5 x6 x7 x8 x9 x10 x11 x12 x13 x14 x15 y0 y1 y2 y3 y4 y5 y6 y7 y8 y9 y10 y11 y12 y13 y14 y15 u0 u1 u2 u3 u4 u5 u6 u7 u8 u9 u10 u11 u12 u13 u14 u15 v0 v1 v2 v3 v4 v5 v6 v7 v8 v9 v10 v11 v12 v13 v14 v15 h0 n0 _ T93.heap _
    rw [e93]
    exact ⟨rfl, N86, K86, U86_0n, U86_1, U86_2, U86_3n, U86_4n⟩
def Qrm3_1_0 (Z : State) (a1 : Addr) (a2 : Addr) (b1 : Addr) (b2 : Addr) (c1 : Addr) (c2 : Addr) (k1 : ClassId) (k2 : ClassId) (j1 : ClassId) (j2 : ClassId) (x0 : Int32) (x1 : Int32) (x2 : Int32) (x3 : Int32) (x4 : Int32) (x5 : Int32) (x6 : Int32) (x7 : Int32) (x8 : Int32) (x9 : Int32) (x10 : Int32) (x11 : Int32) (x12 : Int32) (x13 : Int32) (x14 : Int32) (x15 : Int32) (y0 : Int32) (y1 : Int32) (y2 : Int32) (y3 : Int32) (y4 : Int32) (y5 : Int32) (y6 : Int32) (y7 : Int32) (y8 : Int32) (y9 : Int32) (y10 : Int32) (y11 : Int32) (y12 : Int32) (y13 : Int32) (y14 : Int32) (y15 : Int32) (u0 : Int32) (u1 : Int32) (u2 : Int32) (u3 : Int32) (u4 : Int32) (u5 : Int32) (u6 : Int32) (u7 : Int32) (u8 : Int32) (u9 : Int32) (u10 : Int32) (u11 : Int32) (u12 : Int32) (u13 : Int32) (u14 : Int32) (u15 : Int32) (v0 : Int32) (v1 : Int32) (v2 : Int32) (v3 : Int32) (v4 : Int32) (v5 : Int32) (v6 : Int32) (v7 : Int32) (v8 : Int32) (v9 : Int32) (v10 : Int32) (v11 : Int32) (v12 : Int32) (v13 : Int32) (v14 : Int32) (v15 : Int32) (h0 : Heap) (n0 : Nat) (v : Option Value) (h : Heap) (L : List Loc) : Prop := v = none ∧ Fr n0 L ∧ Keep h0 h [a1, b1, b2] ∧ Fld Z h a1 "com/example/axiomwright/axiomwright/Arcs" "size" "I" (.int (1 : Int32)) ∧ Fld Z h a1 "com/example/axiomwright/axiomwright/Arcs" "from" "[I" (.ref b1) ∧ Fld Z h a1 "com/example/axiomwright/axiomwright/Arcs" "to" "[I" (.ref b2) ∧ Arv Z h b1 k1 .int (16 : Int32) [(.int x0), (.int x1), (.int x2), (.int x3), (.int x4), (.int x5), (.int x6), (.int x7), (.int x8), (.int x9), (.int x10), (.int x11), (.int x12), (.int x13), (.int x14), (.int x15)] (.int (0 : Int32)) ∧ Arv Z h b2 k2 .int (16 : Int32) [(.int y0), (.int y1), (.int y2), (.int y3), (.int y4), (.int y5), (.int y6), (.int y7), (.int y8), (.int y9), (.int y10), (.int y11), (.int y12), (.int y13), (.int y14), (.int y15)] (.int (0 : Int32))
theorem efrm3_1_0 (m : MethodId) (x0 : Addr) (x1 : Addr) : entryFrame m #[(.ref x0), (.ref x1)] 3 = mkF m 0 #[.val (.ref x0), .val (.ref x1), .unset] [] := by first | (simp [entryFrame, mkF, argsToLocals, Value.category]; done) | rfl
set_option maxRecDepth 65536 in
set_option maxHeartbeats 40000000 in
theorem rm3_1_0 (l : Launch) (Z : State) (a0 : Array Value) (hw : ∀ d ∈ tables_1, d.before a0 Z = true) (ws : List Jvm.Cond) (a1 : Addr) (a2 : Addr) (b1 : Addr) (b2 : Addr) (c1 : Addr) (c2 : Addr) (k1 : ClassId) (k2 : ClassId) (j1 : ClassId) (j2 : ClassId) (x0 : Int32) (x1 : Int32) (x2 : Int32) (x3 : Int32) (x4 : Int32) (x5 : Int32) (x6 : Int32) (x7 : Int32) (x8 : Int32) (x9 : Int32) (x10 : Int32) (x11 : Int32) (x12 : Int32) (x13 : Int32) (x14 : Int32) (x15 : Int32) (y0 : Int32) (y1 : Int32) (y2 : Int32) (y3 : Int32) (y4 : Int32) (y5 : Int32) (y6 : Int32) (y7 : Int32) (y8 : Int32) (y9 : Int32) (y10 : Int32) (y11 : Int32) (y12 : Int32) (y13 : Int32) (y14 : Int32) (y15 : Int32) (u0 : Int32) (u1 : Int32) (u2 : Int32) (u3 : Int32) (u4 : Int32) (u5 : Int32) (u6 : Int32) (u7 : Int32) (u8 : Int32) (u9 : Int32) (u10 : Int32) (u11 : Int32) (u12 : Int32) (u13 : Int32) (u14 : Int32) (u15 : Int32) (v0 : Int32) (v1 : Int32) (v2 : Int32) (v3 : Int32) (v4 : Int32) (v5 : Int32) (v6 : Int32) (v7 : Int32) (v8 : Int32) (v9 : Int32) (v10 : Int32) (v11 : Int32) (v12 : Int32) (v13 : Int32) (v14 : Int32) (v15 : Int32) (h0 : Heap) (n0 : Nat) (Z0 : n0 ≤ h0.size) (P0 : Exa Z h0 a1 "com/example/axiomwright/axiomwright/Arcs") (P1 : Fld Z h0 a1 "com/example/axiomwright/axiomwright/Arcs" "size" "I" (.int (1 : Int32))) (P2 : Fld Z h0 a1 "com/example/axiomwright/axiomwright/Arcs" "from" "[I" (.ref b1)) (P3 : Fld Z h0 a1 "com/example/axiomwright/axiomwright/Arcs" "to" "[I" (.ref b2)) (P4 : Arv Z h0 b1 k1 .int (16 : Int32) [(.int x0), (.int x1), (.int x2), (.int x3), (.int x4), (.int x5), (.int x6), (.int x7), (.int x8), (.int x9), (.int x10), (.int x11), (.int x12), (.int x13), (.int x14), (.int x15)] (.int (0 : Int32))) (P5 : Arv Z h0 b2 k2 .int (16 : Int32) [(.int y0), (.int y1), (.int y2), (.int y3), (.int y4), (.int y5), (.int y6), (.int y7), (.int y8), (.int y9), (.int y10), (.int y11), (.int y12), (.int y13), (.int y14), (.int y15)] (.int (0 : Int32))) (P6 : Fld Z h0 a2 "com/example/axiomwright/axiomwright/Arcs" "size" "I" (.int (0 : Int32))) (P7 : Fld Z h0 a2 "com/example/axiomwright/axiomwright/Arcs" "from" "[I" (.ref c1)) (P8 : Fld Z h0 a2 "com/example/axiomwright/axiomwright/Arcs" "to" "[I" (.ref c2)) (P9 : Arv Z h0 c1 j1 .int (16 : Int32) [(.int u0), (.int u1), (.int u2), (.int u3), (.int u4), (.int u5), (.int u6), (.int u7), (.int u8), (.int u9), (.int u10), (.int u11), (.int u12), (.int u13), (.int u14), (.int u15)] (.int (0 : Int32))) (P10 : Arv Z h0 c2 j2 .int (16 : Int32) [(.int v0), (.int v1), (.int v2), (.int v3), (.int v4), (.int v5), (.int v6), (.int v7), (.int v8), (.int v9), (.int v10), (.int v11), (.int v12), (.int v13), (.int v14), (.int v15)] (.int (0 : Int32))) (g_a1 : n0 ≤ a1) (g_b1 : n0 ≤ b1) (g_b2 : n0 ≤ b2) (ne_a1_b1 : a1 ≠ b1) (ne_a1_b2 : a1 ≠ b2) (ne_b1_b2 : b1 ≠ b2) (ne_a2_a1 : a2 ≠ a1) (ne_a2_b1 : a2 ≠ b1) (ne_a2_b2 : a2 ≠ b2) (ne_c1_a1 : c1 ≠ a1) (ne_c1_b1 : c1 ≠ b1) (ne_c1_b2 : c1 ≠ b2) (ne_c2_a1 : c2 ≠ a1) (ne_c2_b1 : c2 ≠ b1) (ne_c2_b2 : c2 ≠ b2) :
    MetFree l (⟨"com/example/axiomwright/axiomwright/Arcs", "addAll", "(Lcom/example/axiomwright/axiomwright/Arcs;)V"⟩ : MethodName) (head1 (Jvm.Cond.code (⟨"com/example/axiomwright/axiomwright/Arcs", "addAll", "(Lcom/example/axiomwright/axiomwright/Arcs;)V"⟩ : MethodName) prog_2_method_4_code 3 none :: ws) ({ frames := 0, cells := 0, slots := 0, locals := 0 } : Room)) (fun a U => a = #[(.ref a1), (.ref a2)] ∧ Z.Warmed39 U.vm ∧ U.heap = h0) (fun _ _ _ _ _ => True) (fun _ U o U' => ∃ v L, o = .returned v ∧ Qrm3_1_0 Z a1 a2 b1 b2 c1 c2 k1 k2 j1 j2 x0 x1 x2 x3 x4 x5 x6 x7 x8 x9 x10 x11 x12 x13 x14 x15 y0 y1 y2 y3 y4 y5 y6 y7 y8 y9 y10 y11 y12 y13 y14 y15 u0 u1 u2 u3 u4 u5 u6 u7 u8 u9 u10 u11 u12 u13 u14 u15 v0 v1 v2 v3 v4 v5 v6 v7 v8 v9 v10 v11 v12 v13 v14 v15 h0 n0 v U'.heap L ∧ FrameEnd U o U' L ({ frames := 0, cells := 0, slots := 0, locals := 0 } : Room).cells ({ frames := 0, cells := 0, slots := 0, locals := 0 } : Room).slots) := by
  refine MetFree.of_bodySF (plainFor_of_name pn_0) hisR ?_
  intro p e s m args below meth c s₁ Bd hml0 hP hK
  obtain ⟨rfl, hZ, hh⟩ := hP
  have hx := Bd.exec
  have hby := Bd.bytes
  have hml : c.maxLocals = 3 := hml0
  have hown : s.vm.findClass "com/example/axiomwright/axiomwright/Arcs" = some m.cls := findClass_of_methodNamed Bd.named
  have hnm := (name_of_methodNamed Bd.named Bd.method).1
  have X0 : Stand p l e ({ frames := 0, cells := 0, slots := 0, locals := 0 } : Room) s m #[(.ref a1), (.ref a2)] below meth c s₁ [] 0 0 := Stand.of_body Bd
  have e0 : s₁.heap = h0 := by rw [← hh, Bd.state]; rfl
  have N0 := Fr.nil n0
  have K0 : Keep h0 h0 [a1, b1, b2] := Keep.refl h0 _
  refine own_go (B := s₁.setTop (mkF m 0 #[.val (.ref a1), .val (.ref a2), .unset] [])) (fun t k => castTop (efrm3_1_0 m a1 a2) k) ?_
  refine own_go (A := s₁.setTop (mkF m 0 #[.val (.ref a1), .val (.ref a2), .unset] [])) (B := s₁.setTop (mkF m 4 #[.val (.ref a1), .val (.ref a2), .val (.int (0 : Int32))] [(.ref a2), (.int (0 : Int32))])) (fun t k => ?_) ?_
  · show Steps p.tables e below (s₁.setTop (mkF m 0 #[.val (.ref a1), .val (.ref a2), .unset] [])) _
    refine XS.iconst X0.here hx rfl (hb hby d3_0) ?_
    show Steps p.tables e below (s₁.setTop (mkF m 1 #[.val (.ref a1), .val (.ref a2), .unset] [(.int (0 : Int32))])) _
    refine XS.istoreN X0.here hx rfl (hb hby d3_1) rfl (l' := #[.val (.ref a1), .val (.ref a2), .val (.int (0 : Int32))]) rfl ?_
    show Steps p.tables e below (s₁.setTop (mkF m 2 #[.val (.ref a1), .val (.ref a2), .val (.int (0 : Int32))] [])) _
    refine XS.iloadN X0.here hx rfl (hb hby d3_2) rfl ?_
    show Steps p.tables e below (s₁.setTop (mkF m 3 #[.val (.ref a1), .val (.ref a2), .val (.int (0 : Int32))] [(.int (0 : Int32))])) _
    refine XS.aloadN X0.here hx rfl (hb hby d3_3) rfl rfl ?_
    exact k
  obtain ⟨T95, X95, e95, st95⟩ := getF X0 hx hZ hown (host := "") (Or.inl (hw _ (List.mem_of_getElem? (i := 19) rfl))) Via.refl e0 P6 (g := (mkF m 4 #[.val (.ref a1), .val (.ref a2), .val (.int (0 : Int32))] [(.ref a2), (.int (0 : Int32))])) rfl rfl (hb hby d3_4)
  refine own_go st95 ?_
  refine own_go (A := T95.setTop (mkF m 7 #[.val (.ref a1), .val (.ref a2), .val (.int (0 : Int32))] [(.int (0 : Int32)), (.int (0 : Int32))])) (B := T95.setTop (mkF m 32 #[.val (.ref a1), .val (.ref a2), .val (.int (0 : Int32))] [])) (fun t k => ?_) ?_
  · show Steps p.tables e below (T95.setTop (mkF m 7 #[.val (.ref a1), .val (.ref a2), .val (.int (0 : Int32))] [(.int (0 : Int32)), (.int (0 : Int32))])) _
    refine XS.icmpYes X95.here hx rfl (pc0 := 7) (pc' := 32) rfl (hb hby d3_7) rfl (flt Int32.lt_irrefl).2.1 (by decide) (by decide) ?_
    exact k
  obtain ⟨fs, hr, hrun, hended, hW, hsame⟩ := X95.leave (v := none) (fun _ => rfl)
  refine ⟨_, _, ?_, hrun, hended, _, _, rfl, ?_, ⟨_, rfl⟩, hW, hsame.mono (by decide) (by decide)⟩
  · show Steps p.tables e below (T95.setTop (mkF m 32 #[.val (.ref a1), .val (.ref a2), .val (.int (0 : Int32))] [])) _
    exact X95.returnOut hx Bd.returns (hb hby d3_32) hr
  · show Qrm3_1_0 Z a1 a2 b1 b2 c1 c2 k1 k2 j1 j2 x0 x1 x2 x3 x4 x5 x6 x7 x8 x9 x10 x11 x12 x13 x14 x15 y0 y1 y2 y3 y4 y5 y6 y7 y8 y9 y10 y11 y12 y13 y14 y15 u0 u1 u2 u3 u4 u5 u6 u7 u8 u9 u10 u11 u12 u13 u14 u15 v0 v1 v2 v3 v4 v5 v6 v7 v8 v9 v10 v11 v12 v13 v14 v15 h0 n0 _ T95.heap _
    rw [e95]
    exact ⟨rfl, N0, K0, P1, P2, P3, P4, P5⟩
def Qrm3_1_1 (Z : State) (a1 : Addr) (a2 : Addr) (b1 : Addr) (b2 : Addr) (c1 : Addr) (c2 : Addr) (k1 : ClassId) (k2 : ClassId) (j1 : ClassId) (j2 : ClassId) (x0 : Int32) (x1 : Int32) (x2 : Int32) (x3 : Int32) (x4 : Int32) (x5 : Int32) (x6 : Int32) (x7 : Int32) (x8 : Int32) (x9 : Int32) (x10 : Int32) (x11 : Int32) (x12 : Int32) (x13 : Int32) (x14 : Int32) (x15 : Int32) (y0 : Int32) (y1 : Int32) (y2 : Int32) (y3 : Int32) (y4 : Int32) (y5 : Int32) (y6 : Int32) (y7 : Int32) (y8 : Int32) (y9 : Int32) (y10 : Int32) (y11 : Int32) (y12 : Int32) (y13 : Int32) (y14 : Int32) (y15 : Int32) (u0 : Int32) (u1 : Int32) (u2 : Int32) (u3 : Int32) (u4 : Int32) (u5 : Int32) (u6 : Int32) (u7 : Int32) (u8 : Int32) (u9 : Int32) (u10 : Int32) (u11 : Int32) (u12 : Int32) (u13 : Int32) (u14 : Int32) (u15 : Int32) (v0 : Int32) (v1 : Int32) (v2 : Int32) (v3 : Int32) (v4 : Int32) (v5 : Int32) (v6 : Int32) (v7 : Int32) (v8 : Int32) (v9 : Int32) (v10 : Int32) (v11 : Int32) (v12 : Int32) (v13 : Int32) (v14 : Int32) (v15 : Int32) (h0 : Heap) (n0 : Nat) (v : Option Value) (h : Heap) (L : List Loc) : Prop := v = none ∧ Fr n0 L ∧ Keep h0 h [a1, b1, b2] ∧ Fld Z h a1 "com/example/axiomwright/axiomwright/Arcs" "size" "I" (.int (2 : Int32)) ∧ Fld Z h a1 "com/example/axiomwright/axiomwright/Arcs" "from" "[I" (.ref b1) ∧ Fld Z h a1 "com/example/axiomwright/axiomwright/Arcs" "to" "[I" (.ref b2) ∧ Arv Z h b1 k1 .int (16 : Int32) [(.int x0), (.int u0), (.int x2), (.int x3), (.int x4), (.int x5), (.int x6), (.int x7), (.int x8), (.int x9), (.int x10), (.int x11), (.int x12), (.int x13), (.int x14), (.int x15)] (.int (0 : Int32)) ∧ Arv Z h b2 k2 .int (16 : Int32) [(.int y0), (.int v0), (.int y2), (.int y3), (.int y4), (.int y5), (.int y6), (.int y7), (.int y8), (.int y9), (.int y10), (.int y11), (.int y12), (.int y13), (.int y14), (.int y15)] (.int (0 : Int32))
theorem efrm3_1_1 (m : MethodId) (x0 : Addr) (x1 : Addr) : entryFrame m #[(.ref x0), (.ref x1)] 3 = mkF m 0 #[.val (.ref x0), .val (.ref x1), .unset] [] := by first | (simp [entryFrame, mkF, argsToLocals, Value.category]; done) | rfl
set_option maxRecDepth 65536 in
set_option maxHeartbeats 40000000 in
theorem rm3_1_1 (l : Launch) (Z : State) (a0 : Array Value) (hw : ∀ d ∈ tables_1, d.before a0 Z = true) (ws : List Jvm.Cond) (a1 : Addr) (a2 : Addr) (b1 : Addr) (b2 : Addr) (c1 : Addr) (c2 : Addr) (k1 : ClassId) (k2 : ClassId) (j1 : ClassId) (j2 : ClassId) (x0 : Int32) (x1 : Int32) (x2 : Int32) (x3 : Int32) (x4 : Int32) (x5 : Int32) (x6 : Int32) (x7 : Int32) (x8 : Int32) (x9 : Int32) (x10 : Int32) (x11 : Int32) (x12 : Int32) (x13 : Int32) (x14 : Int32) (x15 : Int32) (y0 : Int32) (y1 : Int32) (y2 : Int32) (y3 : Int32) (y4 : Int32) (y5 : Int32) (y6 : Int32) (y7 : Int32) (y8 : Int32) (y9 : Int32) (y10 : Int32) (y11 : Int32) (y12 : Int32) (y13 : Int32) (y14 : Int32) (y15 : Int32) (u0 : Int32) (u1 : Int32) (u2 : Int32) (u3 : Int32) (u4 : Int32) (u5 : Int32) (u6 : Int32) (u7 : Int32) (u8 : Int32) (u9 : Int32) (u10 : Int32) (u11 : Int32) (u12 : Int32) (u13 : Int32) (u14 : Int32) (u15 : Int32) (v0 : Int32) (v1 : Int32) (v2 : Int32) (v3 : Int32) (v4 : Int32) (v5 : Int32) (v6 : Int32) (v7 : Int32) (v8 : Int32) (v9 : Int32) (v10 : Int32) (v11 : Int32) (v12 : Int32) (v13 : Int32) (v14 : Int32) (v15 : Int32) (h0 : Heap) (n0 : Nat) (Z0 : n0 ≤ h0.size) (P0 : Exa Z h0 a1 "com/example/axiomwright/axiomwright/Arcs") (P1 : Fld Z h0 a1 "com/example/axiomwright/axiomwright/Arcs" "size" "I" (.int (1 : Int32))) (P2 : Fld Z h0 a1 "com/example/axiomwright/axiomwright/Arcs" "from" "[I" (.ref b1)) (P3 : Fld Z h0 a1 "com/example/axiomwright/axiomwright/Arcs" "to" "[I" (.ref b2)) (P4 : Arv Z h0 b1 k1 .int (16 : Int32) [(.int x0), (.int x1), (.int x2), (.int x3), (.int x4), (.int x5), (.int x6), (.int x7), (.int x8), (.int x9), (.int x10), (.int x11), (.int x12), (.int x13), (.int x14), (.int x15)] (.int (0 : Int32))) (P5 : Arv Z h0 b2 k2 .int (16 : Int32) [(.int y0), (.int y1), (.int y2), (.int y3), (.int y4), (.int y5), (.int y6), (.int y7), (.int y8), (.int y9), (.int y10), (.int y11), (.int y12), (.int y13), (.int y14), (.int y15)] (.int (0 : Int32))) (P6 : Fld Z h0 a2 "com/example/axiomwright/axiomwright/Arcs" "size" "I" (.int (1 : Int32))) (P7 : Fld Z h0 a2 "com/example/axiomwright/axiomwright/Arcs" "from" "[I" (.ref c1)) (P8 : Fld Z h0 a2 "com/example/axiomwright/axiomwright/Arcs" "to" "[I" (.ref c2)) (P9 : Arv Z h0 c1 j1 .int (16 : Int32) [(.int u0), (.int u1), (.int u2), (.int u3), (.int u4), (.int u5), (.int u6), (.int u7), (.int u8), (.int u9), (.int u10), (.int u11), (.int u12), (.int u13), (.int u14), (.int u15)] (.int (0 : Int32))) (P10 : Arv Z h0 c2 j2 .int (16 : Int32) [(.int v0), (.int v1), (.int v2), (.int v3), (.int v4), (.int v5), (.int v6), (.int v7), (.int v8), (.int v9), (.int v10), (.int v11), (.int v12), (.int v13), (.int v14), (.int v15)] (.int (0 : Int32))) (g_a1 : n0 ≤ a1) (g_b1 : n0 ≤ b1) (g_b2 : n0 ≤ b2) (ne_a1_b1 : a1 ≠ b1) (ne_a1_b2 : a1 ≠ b2) (ne_b1_b2 : b1 ≠ b2) (ne_a2_a1 : a2 ≠ a1) (ne_a2_b1 : a2 ≠ b1) (ne_a2_b2 : a2 ≠ b2) (ne_c1_a1 : c1 ≠ a1) (ne_c1_b1 : c1 ≠ b1) (ne_c1_b2 : c1 ≠ b2) (ne_c2_a1 : c2 ≠ a1) (ne_c2_b1 : c2 ≠ b1) (ne_c2_b2 : c2 ≠ b2) :
    MetFree l (⟨"com/example/axiomwright/axiomwright/Arcs", "addAll", "(Lcom/example/axiomwright/axiomwright/Arcs;)V"⟩ : MethodName) (head1 (Jvm.Cond.code (⟨"com/example/axiomwright/axiomwright/Arcs", "addAll", "(Lcom/example/axiomwright/axiomwright/Arcs;)V"⟩ : MethodName) prog_2_method_4_code 3 none :: ws) ({ frames := 1, cells := 0, slots := 0, locals := 14 } : Room)) (fun a U => a = #[(.ref a1), (.ref a2)] ∧ Z.Warmed39 U.vm ∧ U.heap = h0) (fun _ _ _ _ _ => True) (fun _ U o U' => ∃ v L, o = .returned v ∧ Qrm3_1_1 Z a1 a2 b1 b2 c1 c2 k1 k2 j1 j2 x0 x1 x2 x3 x4 x5 x6 x7 x8 x9 x10 x11 x12 x13 x14 x15 y0 y1 y2 y3 y4 y5 y6 y7 y8 y9 y10 y11 y12 y13 y14 y15 u0 u1 u2 u3 u4 u5 u6 u7 u8 u9 u10 u11 u12 u13 u14 u15 v0 v1 v2 v3 v4 v5 v6 v7 v8 v9 v10 v11 v12 v13 v14 v15 h0 n0 v U'.heap L ∧ FrameEnd U o U' L ({ frames := 1, cells := 0, slots := 0, locals := 14 } : Room).cells ({ frames := 1, cells := 0, slots := 0, locals := 14 } : Room).slots) := by
  refine MetFree.of_bodySF (plainFor_of_name pn_0) hisR ?_
  intro p e s m args below meth c s₁ Bd hml0 hP hK
  obtain ⟨rfl, hZ, hh⟩ := hP
  have hx := Bd.exec
  have hby := Bd.bytes
  have hml : c.maxLocals = 3 := hml0
  have hown : s.vm.findClass "com/example/axiomwright/axiomwright/Arcs" = some m.cls := findClass_of_methodNamed Bd.named
  have hnm := (name_of_methodNamed Bd.named Bd.method).1
  have X0 : Stand p l e ({ frames := 1, cells := 0, slots := 0, locals := 14 } : Room) s m #[(.ref a1), (.ref a2)] below meth c s₁ [] 0 0 := Stand.of_body Bd
  have e0 : s₁.heap = h0 := by rw [← hh, Bd.state]; rfl
  have N0 := Fr.nil n0
  have K0 : Keep h0 h0 [a1, b1, b2] := Keep.refl h0 _
  refine own_go (B := s₁.setTop (mkF m 0 #[.val (.ref a1), .val (.ref a2), .unset] [])) (fun t k => castTop (efrm3_1_1 m a1 a2) k) ?_
  refine own_go (A := s₁.setTop (mkF m 0 #[.val (.ref a1), .val (.ref a2), .unset] [])) (B := s₁.setTop (mkF m 4 #[.val (.ref a1), .val (.ref a2), .val (.int (0 : Int32))] [(.ref a2), (.int (0 : Int32))])) (fun t k => ?_) ?_
  · show Steps p.tables e below (s₁.setTop (mkF m 0 #[.val (.ref a1), .val (.ref a2), .unset] [])) _
    refine XS.iconst X0.here hx rfl (hb hby d3_0) ?_
    show Steps p.tables e below (s₁.setTop (mkF m 1 #[.val (.ref a1), .val (.ref a2), .unset] [(.int (0 : Int32))])) _
    refine XS.istoreN X0.here hx rfl (hb hby d3_1) rfl (l' := #[.val (.ref a1), .val (.ref a2), .val (.int (0 : Int32))]) rfl ?_
    show Steps p.tables e below (s₁.setTop (mkF m 2 #[.val (.ref a1), .val (.ref a2), .val (.int (0 : Int32))] [])) _
    refine XS.iloadN X0.here hx rfl (hb hby d3_2) rfl ?_
    show Steps p.tables e below (s₁.setTop (mkF m 3 #[.val (.ref a1), .val (.ref a2), .val (.int (0 : Int32))] [(.int (0 : Int32))])) _
    refine XS.aloadN X0.here hx rfl (hb hby d3_3) rfl rfl ?_
    exact k
  obtain ⟨T97, X97, e97, st97⟩ := getF X0 hx hZ hown (host := "") (Or.inl (hw _ (List.mem_of_getElem? (i := 19) rfl))) Via.refl e0 P6 (g := (mkF m 4 #[.val (.ref a1), .val (.ref a2), .val (.int (0 : Int32))] [(.ref a2), (.int (0 : Int32))])) rfl rfl (hb hby d3_4)
  refine own_go st97 ?_
  refine own_go (A := T97.setTop (mkF m 7 #[.val (.ref a1), .val (.ref a2), .val (.int (0 : Int32))] [(.int (1 : Int32)), (.int (0 : Int32))])) (B := T97.setTop (mkF m 12 #[.val (.ref a1), .val (.ref a2), .val (.int (0 : Int32))] [(.ref a2), (.ref a1)])) (fun t k => ?_) ?_
  · show Steps p.tables e below (T97.setTop (mkF m 7 #[.val (.ref a1), .val (.ref a2), .val (.int (0 : Int32))] [(.int (1 : Int32)), (.int (0 : Int32))])) _
    refine XS.icmpNo X97.here hx rfl (hb hby d3_7) rfl (tlt (by decide : ((0 : Int32) < (1 : Int32)))).2.1 ?_
    show Steps p.tables e below (T97.setTop (mkF m 10 #[.val (.ref a1), .val (.ref a2), .val (.int (0 : Int32))] [])) _
    refine XS.aloadN X97.here hx rfl (hb hby d3_10) rfl rfl ?_
    show Steps p.tables e below (T97.setTop (mkF m 11 #[.val (.ref a1), .val (.ref a2), .val (.int (0 : Int32))] [(.ref a1)])) _
    refine XS.aloadN X97.here hx rfl (hb hby d3_11) rfl rfl ?_
    exact k
  obtain ⟨T99, X99, e99, st99⟩ := getF X97 hx hZ hown (host := "") (Or.inl (hw _ (List.mem_of_getElem? (i := 10) rfl))) Via.refl e97 P7 (g := (mkF m 12 #[.val (.ref a1), .val (.ref a2), .val (.int (0 : Int32))] [(.ref a2), (.ref a1)])) rfl rfl (hb hby d3_12)
  refine own_go st99 ?_
  refine own_go (A := T99.setTop (mkF m 15 #[.val (.ref a1), .val (.ref a2), .val (.int (0 : Int32))] [(.ref c1), (.ref a1)])) (B := T99.setTop (mkF m 16 #[.val (.ref a1), .val (.ref a2), .val (.int (0 : Int32))] [(.int (0 : Int32)), (.ref c1), (.ref a1)])) (fun t k => ?_) ?_
  · show Steps p.tables e below (T99.setTop (mkF m 15 #[.val (.ref a1), .val (.ref a2), .val (.int (0 : Int32))] [(.ref c1), (.ref a1)])) _
    refine XS.iloadN X99.here hx rfl (hb hby d3_15) rfl ?_
    exact k
  obtain ⟨cl100, Ar100, q100, S100, M100, Ha100, G100⟩ := id P9
  have hin100 : ¬ ((0 : Int32) < 0 ∨ cl100.slots.size ≤ ((0 : Int32)).toNatClampNeg) := inb_of S100 ⟨by decide, by decide⟩
  refine own_go (A := T99.setTop (mkF m 16 #[.val (.ref a1), .val (.ref a2), .val (.int (0 : Int32))] [(.int (0 : Int32)), (.ref c1), (.ref a1)])) (X99.iaload hx (j := (0 : Int32)) (v := (.int u0)) (by rw [e99]; exact Ar100.1) (State.isArrayOf_alike hZ.alike Ar100.2.1) Ar100.2.2 hin100 (Has.at Ha100 hin100 rfl) (g := (mkF m 16 #[.val (.ref a1), .val (.ref a2), .val (.int (0 : Int32))] [(.int (0 : Int32)), (.ref c1), (.ref a1)])) rfl rfl (hb hby d3_16)) ?_
  refine own_go (A := T99.setTop (mkF m 17 #[.val (.ref a1), .val (.ref a2), .val (.int (0 : Int32))] [(.int u0), (.ref a1)])) (B := T99.setTop (mkF m 18 #[.val (.ref a1), .val (.ref a2), .val (.int (0 : Int32))] [(.ref a2), (.int u0), (.ref a1)])) (fun t k => ?_) ?_
  · show Steps p.tables e below (T99.setTop (mkF m 17 #[.val (.ref a1), .val (.ref a2), .val (.int (0 : Int32))] [(.int u0), (.ref a1)])) _
    refine XS.aloadN X99.here hx rfl (hb hby d3_17) rfl rfl ?_
    exact k
  obtain ⟨T101, X101, e101, st101⟩ := getF X99 hx hZ hown (host := "") (Or.inl (hw _ (List.mem_of_getElem? (i := 12) rfl))) Via.refl e99 P8 (g := (mkF m 18 #[.val (.ref a1), .val (.ref a2), .val (.int (0 : Int32))] [(.ref a2), (.int u0), (.ref a1)])) rfl rfl (hb hby d3_18)
  refine own_go st101 ?_
  refine own_go (A := T101.setTop (mkF m 21 #[.val (.ref a1), .val (.ref a2), .val (.int (0 : Int32))] [(.ref c2), (.int u0), (.ref a1)])) (B := T101.setTop (mkF m 22 #[.val (.ref a1), .val (.ref a2), .val (.int (0 : Int32))] [(.int (0 : Int32)), (.ref c2), (.int u0), (.ref a1)])) (fun t k => ?_) ?_
  · show Steps p.tables e below (T101.setTop (mkF m 21 #[.val (.ref a1), .val (.ref a2), .val (.int (0 : Int32))] [(.ref c2), (.int u0), (.ref a1)])) _
    refine XS.iloadN X101.here hx rfl (hb hby d3_21) rfl ?_
    exact k
  obtain ⟨cl102, Ar102, q102, S102, M102, Ha102, G102⟩ := id P10
  have hin102 : ¬ ((0 : Int32) < 0 ∨ cl102.slots.size ≤ ((0 : Int32)).toNatClampNeg) := inb_of S102 ⟨by decide, by decide⟩
  refine own_go (A := T101.setTop (mkF m 22 #[.val (.ref a1), .val (.ref a2), .val (.int (0 : Int32))] [(.int (0 : Int32)), (.ref c2), (.int u0), (.ref a1)])) (X101.iaload hx (j := (0 : Int32)) (v := (.int v0)) (by rw [e101]; exact Ar102.1) (State.isArrayOf_alike hZ.alike Ar102.2.1) Ar102.2.2 hin102 (Has.at Ha102 hin102 rfl) (g := (mkF m 22 #[.val (.ref a1), .val (.ref a2), .val (.int (0 : Int32))] [(.int (0 : Int32)), (.ref c2), (.int u0), (.ref a1)])) rfl rfl (hb hby d3_22)) ?_
  obtain ⟨cq103, kq103, q103a, q103b, q103c⟩ := isOf hZ e101 P0
  obtain ⟨_, _, ⟨T103, L103, k103, n103⟩, -, X103, ⟨Lc103, hQ103, l103, y103, z103⟩, st103⟩ := X101.virtualBack hx (y := (⟨"com/example/axiomwright/axiomwright/Arcs", "add", "(II)V"⟩ : MethodName)) (z := (⟨"com/example/axiomwright/axiomwright/Arcs", "add", "(II)V"⟩ : MethodName)) hown (mvT hZ (hw _ (List.mem_of_getElem? (i := 35) rfl))) (mvT hZ (hw _ (List.mem_of_getElem? (i := 31) rfl))) (notFace_of_selects (args := #[]) (mvT hZ (hw _ (List.mem_of_getElem? (i := 33) rfl)))) (mvT hZ (hw _ (List.mem_of_getElem? (i := 33) rfl))) (mvT hZ (hw _ (List.mem_of_getElem? (i := 32) rfl))) (by decide) (backOf (W := 0) (rm6 l Z a0 hw [] a1 u0 v0 (1 : Int32) b1 b2 k1 k2 [(.int x0), (.int x1), (.int x2), (.int x3), (.int x4), (.int x5), (.int x6), (.int x7), (.int x8), (.int x9), (.int x10), (.int x11), (.int x12), (.int x13), (.int x14), (.int x15)] [(.int y0), (.int y1), (.int y2), (.int y3), (.int y4), (.int y5), (.int y6), (.int y7), (.int y8), (.int y9), (.int y10), (.int y11), (.int y12), (.int y13), (.int y14), (.int y15)] h0 n0 Z0 P0 P1 P2 P3 P4 P5 g_a1 g_b1 g_b2 ne_a1_b1 ne_a1_b2 ne_b1_b2 (by decide) (by decide) (by decide) (Nat.le_of_ble_eq_true rfl) (Nat.le_of_ble_eq_true rfl)) hZ (hw _ (List.mem_of_getElem? (i := 34) rfl)) (hw _ (List.mem_of_getElem? (i := 3) rfl)) (by decide) (by decide)) q103a q103c (g := (mkF m 23 #[.val (.ref a1), .val (.ref a2), .val (.int (0 : Int32))] [(.int v0), (.int u0), (.ref a1)])) rfl (by rw [hml]; rfl) (Steps.refl _) (argsL := [(.int u0), (.int v0)]) (rest := []) (lenOf pd_0 rfl) rfl (by show 2 * 0 + _ ≤ _; exact Nat.le_of_eq rfl) (hb hby d3_23) (fun _ _ => ⟨rfl, e101, (by decide : 0 + 0 ≤ _), (by decide : 0 + 0 ≤ _)⟩)
  dsimp only [Pt.U, Pt.locs, Pt.cells, Pt.slots] at X103 l103 y103 z103 st103 hQ103
  subst l103 y103 z103
  obtain ⟨rfl, Nq103, Kq103, U103_0, U103_1, U103_2, U103_3, U103_4⟩ := hQ103
  have Q104 : Exa Z T103.heap a1 "com/example/axiomwright/axiomwright/Arcs" := P0.keep Kq103
  have Q105 : Fld Z T103.heap a2 "com/example/axiomwright/axiomwright/Arcs" "size" "I" (.int (1 : Int32)) := P6.keep Kq103 (ninS ne_a2_a1 (ninS ne_a2_b1 (ninS ne_a2_b2 nin0)))
  have Q106 : Fld Z T103.heap a2 "com/example/axiomwright/axiomwright/Arcs" "from" "[I" (.ref c1) := P7.keep Kq103 (ninS ne_a2_a1 (ninS ne_a2_b1 (ninS ne_a2_b2 nin0)))
  have Q107 : Fld Z T103.heap a2 "com/example/axiomwright/axiomwright/Arcs" "to" "[I" (.ref c2) := P8.keep Kq103 (ninS ne_a2_a1 (ninS ne_a2_b1 (ninS ne_a2_b2 nin0)))
  have Q108 : Arv Z T103.heap c1 j1 .int (16 : Int32) [(.int u0), (.int u1), (.int u2), (.int u3), (.int u4), (.int u5), (.int u6), (.int u7), (.int u8), (.int u9), (.int u10), (.int u11), (.int u12), (.int u13), (.int u14), (.int u15)] (.int (0 : Int32)) := P9.keep Kq103 (ninS ne_c1_a1 (ninS ne_c1_b1 (ninS ne_c1_b2 nin0)))
  have Q109 : Arv Z T103.heap c2 j2 .int (16 : Int32) [(.int v0), (.int v1), (.int v2), (.int v3), (.int v4), (.int v5), (.int v6), (.int v7), (.int v8), (.int v9), (.int v10), (.int v11), (.int v12), (.int v13), (.int v14), (.int v15)] (.int (0 : Int32)) := P10.keep Kq103 (ninS ne_c2_a1 (ninS ne_c2_b1 (ninS ne_c2_b2 nin0)))
  have U103_0n : Fld Z T103.heap a1 "com/example/axiomwright/axiomwright/Arcs" "size" "I" (.int (2 : Int32)) := U103_0
  have U103_3n : Arv Z T103.heap b1 k1 .int (16 : Int32) [(.int x0), (.int u0), (.int x2), (.int x3), (.int x4), (.int x5), (.int x6), (.int x7), (.int x8), (.int x9), (.int x10), (.int x11), (.int x12), (.int x13), (.int x14), (.int x15)] (.int (0 : Int32)) := U103_3
  have U103_4n : Arv Z T103.heap b2 k2 .int (16 : Int32) [(.int y0), (.int v0), (.int y2), (.int y3), (.int y4), (.int y5), (.int y6), (.int y7), (.int y8), (.int y9), (.int y10), (.int y11), (.int y12), (.int y13), (.int y14), (.int y15)] (.int (0 : Int32)) := U103_4
  have Z103 : n0 ≤ T103.heap.size := Nat.le_trans Z0 Kq103.1
  have K103 : Keep h0 T103.heap [a1, b1, b2] := K0.trans Kq103 (allS (Or.inl (List.mem_of_getElem? (i := 0) rfl)) (allS (Or.inl (List.mem_of_getElem? (i := 1) rfl)) (allS (Or.inl (List.mem_of_getElem? (i := 2) rfl)) all0)))
  have N103 := Fr.app N0 Nq103
  refine own_go (A := _) (B := T103.setTop (mkF m 26 #[.val (.ref a1), .val (.ref a2), .val (.int (0 : Int32))] [])) (fun t k => st103.trans k) ?_
  refine own_go (A := T103.setTop (mkF m 26 #[.val (.ref a1), .val (.ref a2), .val (.int (0 : Int32))] [])) (B := T103.setTop (mkF m 4 #[.val (.ref a1), .val (.ref a2), .val (.int (1 : Int32))] [(.ref a2), (.int (1 : Int32))])) (fun t k => ?_) ?_
  · show Steps p.tables e below (T103.setTop (mkF m 26 #[.val (.ref a1), .val (.ref a2), .val (.int (0 : Int32))] [])) _
    refine XS.iinc X103.here hx rfl (hb hby d3_26) rfl (l' := #[.val (.ref a1), .val (.ref a2), .val (.int (1 : Int32))]) rfl ?_
    show Steps p.tables e below (T103.setTop (mkF m 29 #[.val (.ref a1), .val (.ref a2), .val (.int (1 : Int32))] [])) _
    refine XS.goto X103.here hx rfl (pc0 := 29) (pc' := 2) rfl (hb hby d3_29) (by decide) (by decide) ?_
    show Steps p.tables e below (T103.setTop (mkF m 2 #[.val (.ref a1), .val (.ref a2), .val (.int (1 : Int32))] [])) _
    refine XS.iloadN X103.here hx rfl (hb hby d3_2) rfl ?_
    show Steps p.tables e below (T103.setTop (mkF m 3 #[.val (.ref a1), .val (.ref a2), .val (.int (1 : Int32))] [(.int (1 : Int32))])) _
    refine XS.aloadN X103.here hx rfl (hb hby d3_3) rfl rfl ?_
    exact k
  obtain ⟨T110, X110, e110, st110⟩ := getF X103 hx hZ hown (host := "") (Or.inl (hw _ (List.mem_of_getElem? (i := 19) rfl))) Via.refl rfl Q105 (g := (mkF m 4 #[.val (.ref a1), .val (.ref a2), .val (.int (1 : Int32))] [(.ref a2), (.int (1 : Int32))])) rfl rfl (hb hby d3_4)
  refine own_go st110 ?_
  refine own_go (A := T110.setTop (mkF m 7 #[.val (.ref a1), .val (.ref a2), .val (.int (1 : Int32))] [(.int (1 : Int32)), (.int (1 : Int32))])) (B := T110.setTop (mkF m 32 #[.val (.ref a1), .val (.ref a2), .val (.int (1 : Int32))] [])) (fun t k => ?_) ?_
  · show Steps p.tables e below (T110.setTop (mkF m 7 #[.val (.ref a1), .val (.ref a2), .val (.int (1 : Int32))] [(.int (1 : Int32)), (.int (1 : Int32))])) _
    refine XS.icmpYes X110.here hx rfl (pc0 := 7) (pc' := 32) rfl (hb hby d3_7) rfl (flt Int32.lt_irrefl).2.1 (by decide) (by decide) ?_
    exact k
  obtain ⟨fs, hr, hrun, hended, hW, hsame⟩ := X110.leave (v := none) (fun _ => rfl)
  refine ⟨_, _, ?_, hrun, hended, _, _, rfl, ?_, ⟨_, rfl⟩, hW, hsame.mono (by decide) (by decide)⟩
  · show Steps p.tables e below (T110.setTop (mkF m 32 #[.val (.ref a1), .val (.ref a2), .val (.int (1 : Int32))] [])) _
    exact X110.returnOut hx Bd.returns (hb hby d3_32) hr
  · show Qrm3_1_1 Z a1 a2 b1 b2 c1 c2 k1 k2 j1 j2 x0 x1 x2 x3 x4 x5 x6 x7 x8 x9 x10 x11 x12 x13 x14 x15 y0 y1 y2 y3 y4 y5 y6 y7 y8 y9 y10 y11 y12 y13 y14 y15 u0 u1 u2 u3 u4 u5 u6 u7 u8 u9 u10 u11 u12 u13 u14 u15 v0 v1 v2 v3 v4 v5 v6 v7 v8 v9 v10 v11 v12 v13 v14 v15 h0 n0 _ T110.heap _
    rw [e110]
    exact ⟨rfl, N103, K103, U103_0n, U103_1, U103_2, U103_3n, U103_4n⟩
def Qrm3_1_2 (Z : State) (a1 : Addr) (a2 : Addr) (b1 : Addr) (b2 : Addr) (c1 : Addr) (c2 : Addr) (k1 : ClassId) (k2 : ClassId) (j1 : ClassId) (j2 : ClassId) (x0 : Int32) (x1 : Int32) (x2 : Int32) (x3 : Int32) (x4 : Int32) (x5 : Int32) (x6 : Int32) (x7 : Int32) (x8 : Int32) (x9 : Int32) (x10 : Int32) (x11 : Int32) (x12 : Int32) (x13 : Int32) (x14 : Int32) (x15 : Int32) (y0 : Int32) (y1 : Int32) (y2 : Int32) (y3 : Int32) (y4 : Int32) (y5 : Int32) (y6 : Int32) (y7 : Int32) (y8 : Int32) (y9 : Int32) (y10 : Int32) (y11 : Int32) (y12 : Int32) (y13 : Int32) (y14 : Int32) (y15 : Int32) (u0 : Int32) (u1 : Int32) (u2 : Int32) (u3 : Int32) (u4 : Int32) (u5 : Int32) (u6 : Int32) (u7 : Int32) (u8 : Int32) (u9 : Int32) (u10 : Int32) (u11 : Int32) (u12 : Int32) (u13 : Int32) (u14 : Int32) (u15 : Int32) (v0 : Int32) (v1 : Int32) (v2 : Int32) (v3 : Int32) (v4 : Int32) (v5 : Int32) (v6 : Int32) (v7 : Int32) (v8 : Int32) (v9 : Int32) (v10 : Int32) (v11 : Int32) (v12 : Int32) (v13 : Int32) (v14 : Int32) (v15 : Int32) (h0 : Heap) (n0 : Nat) (v : Option Value) (h : Heap) (L : List Loc) : Prop := v = none ∧ Fr n0 L ∧ Keep h0 h [a1, b1, b2] ∧ Fld Z h a1 "com/example/axiomwright/axiomwright/Arcs" "size" "I" (.int (3 : Int32)) ∧ Fld Z h a1 "com/example/axiomwright/axiomwright/Arcs" "from" "[I" (.ref b1) ∧ Fld Z h a1 "com/example/axiomwright/axiomwright/Arcs" "to" "[I" (.ref b2) ∧ Arv Z h b1 k1 .int (16 : Int32) [(.int x0), (.int u0), (.int u1), (.int x3), (.int x4), (.int x5), (.int x6), (.int x7), (.int x8), (.int x9), (.int x10), (.int x11), (.int x12), (.int x13), (.int x14), (.int x15)] (.int (0 : Int32)) ∧ Arv Z h b2 k2 .int (16 : Int32) [(.int y0), (.int v0), (.int v1), (.int y3), (.int y4), (.int y5), (.int y6), (.int y7), (.int y8), (.int y9), (.int y10), (.int y11), (.int y12), (.int y13), (.int y14), (.int y15)] (.int (0 : Int32))
theorem efrm3_1_2 (m : MethodId) (x0 : Addr) (x1 : Addr) : entryFrame m #[(.ref x0), (.ref x1)] 3 = mkF m 0 #[.val (.ref x0), .val (.ref x1), .unset] [] := by first | (simp [entryFrame, mkF, argsToLocals, Value.category]; done) | rfl
set_option maxRecDepth 65536 in
set_option maxHeartbeats 40000000 in
theorem rm3_1_2 (l : Launch) (Z : State) (a0 : Array Value) (hw : ∀ d ∈ tables_1, d.before a0 Z = true) (ws : List Jvm.Cond) (a1 : Addr) (a2 : Addr) (b1 : Addr) (b2 : Addr) (c1 : Addr) (c2 : Addr) (k1 : ClassId) (k2 : ClassId) (j1 : ClassId) (j2 : ClassId) (x0 : Int32) (x1 : Int32) (x2 : Int32) (x3 : Int32) (x4 : Int32) (x5 : Int32) (x6 : Int32) (x7 : Int32) (x8 : Int32) (x9 : Int32) (x10 : Int32) (x11 : Int32) (x12 : Int32) (x13 : Int32) (x14 : Int32) (x15 : Int32) (y0 : Int32) (y1 : Int32) (y2 : Int32) (y3 : Int32) (y4 : Int32) (y5 : Int32) (y6 : Int32) (y7 : Int32) (y8 : Int32) (y9 : Int32) (y10 : Int32) (y11 : Int32) (y12 : Int32) (y13 : Int32) (y14 : Int32) (y15 : Int32) (u0 : Int32) (u1 : Int32) (u2 : Int32) (u3 : Int32) (u4 : Int32) (u5 : Int32) (u6 : Int32) (u7 : Int32) (u8 : Int32) (u9 : Int32) (u10 : Int32) (u11 : Int32) (u12 : Int32) (u13 : Int32) (u14 : Int32) (u15 : Int32) (v0 : Int32) (v1 : Int32) (v2 : Int32) (v3 : Int32) (v4 : Int32) (v5 : Int32) (v6 : Int32) (v7 : Int32) (v8 : Int32) (v9 : Int32) (v10 : Int32) (v11 : Int32) (v12 : Int32) (v13 : Int32) (v14 : Int32) (v15 : Int32) (h0 : Heap) (n0 : Nat) (Z0 : n0 ≤ h0.size) (P0 : Exa Z h0 a1 "com/example/axiomwright/axiomwright/Arcs") (P1 : Fld Z h0 a1 "com/example/axiomwright/axiomwright/Arcs" "size" "I" (.int (1 : Int32))) (P2 : Fld Z h0 a1 "com/example/axiomwright/axiomwright/Arcs" "from" "[I" (.ref b1)) (P3 : Fld Z h0 a1 "com/example/axiomwright/axiomwright/Arcs" "to" "[I" (.ref b2)) (P4 : Arv Z h0 b1 k1 .int (16 : Int32) [(.int x0), (.int x1), (.int x2), (.int x3), (.int x4), (.int x5), (.int x6), (.int x7), (.int x8), (.int x9), (.int x10), (.int x11), (.int x12), (.int x13), (.int x14), (.int x15)] (.int (0 : Int32))) (P5 : Arv Z h0 b2 k2 .int (16 : Int32) [(.int y0), (.int y1), (.int y2), (.int y3), (.int y4), (.int y5), (.int y6), (.int y7), (.int y8), (.int y9), (.int y10), (.int y11), (.int y12), (.int y13), (.int y14), (.int y15)] (.int (0 : Int32))) (P6 : Fld Z h0 a2 "com/example/axiomwright/axiomwright/Arcs" "size" "I" (.int (2 : Int32))) (P7 : Fld Z h0 a2 "com/example/axiomwright/axiomwright/Arcs" "from" "[I" (.ref c1)) (P8 : Fld Z h0 a2 "com/example/axiomwright/axiomwright/Arcs" "to" "[I" (.ref c2)) (P9 : Arv Z h0 c1 j1 .int (16 : Int32) [(.int u0), (.int u1), (.int u2), (.int u3), (.int u4), (.int u5), (.int u6), (.int u7), (.int u8), (.int u9), (.int u10), (.int u11), (.int u12), (.int u13), (.int u14), (.int u15)] (.int (0 : Int32))) (P10 : Arv Z h0 c2 j2 .int (16 : Int32) [(.int v0), (.int v1), (.int v2), (.int v3), (.int v4), (.int v5), (.int v6), (.int v7), (.int v8), (.int v9), (.int v10), (.int v11), (.int v12), (.int v13), (.int v14), (.int v15)] (.int (0 : Int32))) (g_a1 : n0 ≤ a1) (g_b1 : n0 ≤ b1) (g_b2 : n0 ≤ b2) (ne_a1_b1 : a1 ≠ b1) (ne_a1_b2 : a1 ≠ b2) (ne_b1_b2 : b1 ≠ b2) (ne_a2_a1 : a2 ≠ a1) (ne_a2_b1 : a2 ≠ b1) (ne_a2_b2 : a2 ≠ b2) (ne_c1_a1 : c1 ≠ a1) (ne_c1_b1 : c1 ≠ b1) (ne_c1_b2 : c1 ≠ b2) (ne_c2_a1 : c2 ≠ a1) (ne_c2_b1 : c2 ≠ b1) (ne_c2_b2 : c2 ≠ b2) :
    MetFree l (⟨"com/example/axiomwright/axiomwright/Arcs", "addAll", "(Lcom/example/axiomwright/axiomwright/Arcs;)V"⟩ : MethodName) (head1 (Jvm.Cond.code (⟨"com/example/axiomwright/axiomwright/Arcs", "addAll", "(Lcom/example/axiomwright/axiomwright/Arcs;)V"⟩ : MethodName) prog_2_method_4_code 3 none :: ws) ({ frames := 1, cells := 0, slots := 0, locals := 14 } : Room)) (fun a U => a = #[(.ref a1), (.ref a2)] ∧ Z.Warmed39 U.vm ∧ U.heap = h0) (fun _ _ _ _ _ => True) (fun _ U o U' => ∃ v L, o = .returned v ∧ Qrm3_1_2 Z a1 a2 b1 b2 c1 c2 k1 k2 j1 j2 x0 x1 x2 x3 x4 x5 x6 x7 x8 x9 x10 x11 x12 x13 x14 x15 y0 y1 y2 y3 y4 y5 y6 y7 y8 y9 y10 y11 y12 y13 y14 y15 u0 u1 u2 u3 u4 u5 u6 u7 u8 u9 u10 u11 u12 u13 u14 u15 v0 v1 v2 v3 v4 v5 v6 v7 v8 v9 v10 v11 v12 v13 v14 v15 h0 n0 v U'.heap L ∧ FrameEnd U o U' L ({ frames := 1, cells := 0, slots := 0, locals := 14 } : Room).cells ({ frames := 1, cells := 0, slots := 0, locals := 14 } : Room).slots) := by
  refine MetFree.of_bodySF (plainFor_of_name pn_0) hisR ?_
  intro p e s m args below meth c s₁ Bd hml0 hP hK
  obtain ⟨rfl, hZ, hh⟩ := hP
  have hx := Bd.exec
  have hby := Bd.bytes
  have hml : c.maxLocals = 3 := hml0
  have hown : s.vm.findClass "com/example/axiomwright/axiomwright/Arcs" = some m.cls := findClass_of_methodNamed Bd.named
  have hnm := (name_of_methodNamed Bd.named Bd.method).1
  have X0 : Stand p l e ({ frames := 1, cells := 0, slots := 0, locals := 14 } : Room) s m #[(.ref a1), (.ref a2)] below meth c s₁ [] 0 0 := Stand.of_body Bd
  have e0 : s₁.heap = h0 := by rw [← hh, Bd.state]; rfl
  have N0 := Fr.nil n0
  have K0 : Keep h0 h0 [a1, b1, b2] := Keep.refl h0 _
  refine own_go (B := s₁.setTop (mkF m 0 #[.val (.ref a1), .val (.ref a2), .unset] [])) (fun t k => castTop (efrm3_1_2 m a1 a2) k) ?_
  refine own_go (A := s₁.setTop (mkF m 0 #[.val (.ref a1), .val (.ref a2), .unset] [])) (B := s₁.setTop (mkF m 4 #[.val (.ref a1), .val (.ref a2), .val (.int (0 : Int32))] [(.ref a2), (.int (0 : Int32))])) (fun t k => ?_) ?_
  · show Steps p.tables e below (s₁.setTop (mkF m 0 #[.val (.ref a1), .val (.ref a2), .unset] [])) _
    refine XS.iconst X0.here hx rfl (hb hby d3_0) ?_
    show Steps p.tables e below (s₁.setTop (mkF m 1 #[.val (.ref a1), .val (.ref a2), .unset] [(.int (0 : Int32))])) _
    refine XS.istoreN X0.here hx rfl (hb hby d3_1) rfl (l' := #[.val (.ref a1), .val (.ref a2), .val (.int (0 : Int32))]) rfl ?_
    show Steps p.tables e below (s₁.setTop (mkF m 2 #[.val (.ref a1), .val (.ref a2), .val (.int (0 : Int32))] [])) _
    refine XS.iloadN X0.here hx rfl (hb hby d3_2) rfl ?_
    show Steps p.tables e below (s₁.setTop (mkF m 3 #[.val (.ref a1), .val (.ref a2), .val (.int (0 : Int32))] [(.int (0 : Int32))])) _
    refine XS.aloadN X0.here hx rfl (hb hby d3_3) rfl rfl ?_
    exact k
  obtain ⟨T112, X112, e112, st112⟩ := getF X0 hx hZ hown (host := "") (Or.inl (hw _ (List.mem_of_getElem? (i := 19) rfl))) Via.refl e0 P6 (g := (mkF m 4 #[.val (.ref a1), .val (.ref a2), .val (.int (0 : Int32))] [(.ref a2), (.int (0 : Int32))])) rfl rfl (hb hby d3_4)
  refine own_go st112 ?_
  refine own_go (A := T112.setTop (mkF m 7 #[.val (.ref a1), .val (.ref a2), .val (.int (0 : Int32))] [(.int (2 : Int32)), (.int (0 : Int32))])) (B := T112.setTop (mkF m 12 #[.val (.ref a1), .val (.ref a2), .val (.int (0 : Int32))] [(.ref a2), (.ref a1)])) (fun t k => ?_) ?_
  · show Steps p.tables e below (T112.setTop (mkF m 7 #[.val (.ref a1), .val (.ref a2), .val (.int (0 : Int32))] [(.int (2 : Int32)), (.int (0 : Int32))])) _
    refine XS.icmpNo X112.here hx rfl (hb hby d3_7) rfl (tlt (by decide : ((0 : Int32) < (2 : Int32)))).2.1 ?_
    show Steps p.tables e below (T112.setTop (mkF m 10 #[.val (.ref a1), .val (.ref a2), .val (.int (0 : Int32))] [])) _
    refine XS.aloadN X112.here hx rfl (hb hby d3_10) rfl rfl ?_
    show Steps p.tables e below (T112.setTop (mkF m 11 #[.val (.ref a1), .val (.ref a2), .val (.int (0 : Int32))] [(.ref a1)])) _
    refine XS.aloadN X112.here hx rfl (hb hby d3_11) rfl rfl ?_
    exact k
  obtain ⟨T114, X114, e114, st114⟩ := getF X112 hx hZ hown (host := "") (Or.inl (hw _ (List.mem_of_getElem? (i := 10) rfl))) Via.refl e112 P7 (g := (mkF m 12 #[.val (.ref a1), .val (.ref a2), .val (.int (0 : Int32))] [(.ref a2), (.ref a1)])) rfl rfl (hb hby d3_12)
  refine own_go st114 ?_
  refine own_go (A := T114.setTop (mkF m 15 #[.val (.ref a1), .val (.ref a2), .val (.int (0 : Int32))] [(.ref c1), (.ref a1)])) (B := T114.setTop (mkF m 16 #[.val (.ref a1), .val (.ref a2), .val (.int (0 : Int32))] [(.int (0 : Int32)), (.ref c1), (.ref a1)])) (fun t k => ?_) ?_
  · show Steps p.tables e below (T114.setTop (mkF m 15 #[.val (.ref a1), .val (.ref a2), .val (.int (0 : Int32))] [(.ref c1), (.ref a1)])) _
    refine XS.iloadN X114.here hx rfl (hb hby d3_15) rfl ?_
    exact k
  obtain ⟨cl115, Ar115, q115, S115, M115, Ha115, G115⟩ := id P9
  have hin115 : ¬ ((0 : Int32) < 0 ∨ cl115.slots.size ≤ ((0 : Int32)).toNatClampNeg) := inb_of S115 ⟨by decide, by decide⟩
  refine own_go (A := T114.setTop (mkF m 16 #[.val (.ref a1), .val (.ref a2), .val (.int (0 : Int32))] [(.int (0 : Int32)), (.ref c1), (.ref a1)])) (X114.iaload hx (j := (0 : Int32)) (v := (.int u0)) (by rw [e114]; exact Ar115.1) (State.isArrayOf_alike hZ.alike Ar115.2.1) Ar115.2.2 hin115 (Has.at Ha115 hin115 rfl) (g := (mkF m 16 #[.val (.ref a1), .val (.ref a2), .val (.int (0 : Int32))] [(.int (0 : Int32)), (.ref c1), (.ref a1)])) rfl rfl (hb hby d3_16)) ?_
  refine own_go (A := T114.setTop (mkF m 17 #[.val (.ref a1), .val (.ref a2), .val (.int (0 : Int32))] [(.int u0), (.ref a1)])) (B := T114.setTop (mkF m 18 #[.val (.ref a1), .val (.ref a2), .val (.int (0 : Int32))] [(.ref a2), (.int u0), (.ref a1)])) (fun t k => ?_) ?_
  · show Steps p.tables e below (T114.setTop (mkF m 17 #[.val (.ref a1), .val (.ref a2), .val (.int (0 : Int32))] [(.int u0), (.ref a1)])) _
    refine XS.aloadN X114.here hx rfl (hb hby d3_17) rfl rfl ?_
    exact k
  obtain ⟨T116, X116, e116, st116⟩ := getF X114 hx hZ hown (host := "") (Or.inl (hw _ (List.mem_of_getElem? (i := 12) rfl))) Via.refl e114 P8 (g := (mkF m 18 #[.val (.ref a1), .val (.ref a2), .val (.int (0 : Int32))] [(.ref a2), (.int u0), (.ref a1)])) rfl rfl (hb hby d3_18)
  refine own_go st116 ?_
  refine own_go (A := T116.setTop (mkF m 21 #[.val (.ref a1), .val (.ref a2), .val (.int (0 : Int32))] [(.ref c2), (.int u0), (.ref a1)])) (B := T116.setTop (mkF m 22 #[.val (.ref a1), .val (.ref a2), .val (.int (0 : Int32))] [(.int (0 : Int32)), (.ref c2), (.int u0), (.ref a1)])) (fun t k => ?_) ?_
  · show Steps p.tables e below (T116.setTop (mkF m 21 #[.val (.ref a1), .val (.ref a2), .val (.int (0 : Int32))] [(.ref c2), (.int u0), (.ref a1)])) _
    refine XS.iloadN X116.here hx rfl (hb hby d3_21) rfl ?_
    exact k
  obtain ⟨cl117, Ar117, q117, S117, M117, Ha117, G117⟩ := id P10
  have hin117 : ¬ ((0 : Int32) < 0 ∨ cl117.slots.size ≤ ((0 : Int32)).toNatClampNeg) := inb_of S117 ⟨by decide, by decide⟩
  refine own_go (A := T116.setTop (mkF m 22 #[.val (.ref a1), .val (.ref a2), .val (.int (0 : Int32))] [(.int (0 : Int32)), (.ref c2), (.int u0), (.ref a1)])) (X116.iaload hx (j := (0 : Int32)) (v := (.int v0)) (by rw [e116]; exact Ar117.1) (State.isArrayOf_alike hZ.alike Ar117.2.1) Ar117.2.2 hin117 (Has.at Ha117 hin117 rfl) (g := (mkF m 22 #[.val (.ref a1), .val (.ref a2), .val (.int (0 : Int32))] [(.int (0 : Int32)), (.ref c2), (.int u0), (.ref a1)])) rfl rfl (hb hby d3_22)) ?_
  obtain ⟨cq118, kq118, q118a, q118b, q118c⟩ := isOf hZ e116 P0
  obtain ⟨_, _, ⟨T118, L118, k118, n118⟩, -, X118, ⟨Lc118, hQ118, l118, y118, z118⟩, st118⟩ := X116.virtualBack hx (y := (⟨"com/example/axiomwright/axiomwright/Arcs", "add", "(II)V"⟩ : MethodName)) (z := (⟨"com/example/axiomwright/axiomwright/Arcs", "add", "(II)V"⟩ : MethodName)) hown (mvT hZ (hw _ (List.mem_of_getElem? (i := 35) rfl))) (mvT hZ (hw _ (List.mem_of_getElem? (i := 31) rfl))) (notFace_of_selects (args := #[]) (mvT hZ (hw _ (List.mem_of_getElem? (i := 33) rfl)))) (mvT hZ (hw _ (List.mem_of_getElem? (i := 33) rfl))) (mvT hZ (hw _ (List.mem_of_getElem? (i := 32) rfl))) (by decide) (backOf (W := 0) (rm6 l Z a0 hw [] a1 u0 v0 (1 : Int32) b1 b2 k1 k2 [(.int x0), (.int x1), (.int x2), (.int x3), (.int x4), (.int x5), (.int x6), (.int x7), (.int x8), (.int x9), (.int x10), (.int x11), (.int x12), (.int x13), (.int x14), (.int x15)] [(.int y0), (.int y1), (.int y2), (.int y3), (.int y4), (.int y5), (.int y6), (.int y7), (.int y8), (.int y9), (.int y10), (.int y11), (.int y12), (.int y13), (.int y14), (.int y15)] h0 n0 Z0 P0 P1 P2 P3 P4 P5 g_a1 g_b1 g_b2 ne_a1_b1 ne_a1_b2 ne_b1_b2 (by decide) (by decide) (by decide) (Nat.le_of_ble_eq_true rfl) (Nat.le_of_ble_eq_true rfl)) hZ (hw _ (List.mem_of_getElem? (i := 34) rfl)) (hw _ (List.mem_of_getElem? (i := 3) rfl)) (by decide) (by decide)) q118a q118c (g := (mkF m 23 #[.val (.ref a1), .val (.ref a2), .val (.int (0 : Int32))] [(.int v0), (.int u0), (.ref a1)])) rfl (by rw [hml]; rfl) (Steps.refl _) (argsL := [(.int u0), (.int v0)]) (rest := []) (lenOf pd_0 rfl) rfl (by show 2 * 0 + _ ≤ _; exact Nat.le_of_eq rfl) (hb hby d3_23) (fun _ _ => ⟨rfl, e116, (by decide : 0 + 0 ≤ _), (by decide : 0 + 0 ≤ _)⟩)
  dsimp only [Pt.U, Pt.locs, Pt.cells, Pt.slots] at X118 l118 y118 z118 st118 hQ118
  subst l118 y118 z118
  obtain ⟨rfl, Nq118, Kq118, U118_0, U118_1, U118_2, U118_3, U118_4⟩ := hQ118
  have Q119 : Exa Z T118.heap a1 "com/example/axiomwright/axiomwright/Arcs" := P0.keep Kq118
  have Q120 : Fld Z T118.heap a2 "com/example/axiomwright/axiomwright/Arcs" "size" "I" (.int (2 : Int32)) := P6.keep Kq118 (ninS ne_a2_a1 (ninS ne_a2_b1 (ninS ne_a2_b2 nin0)))
  have Q121 : Fld Z T118.heap a2 "com/example/axiomwright/axiomwright/Arcs" "from" "[I" (.ref c1) := P7.keep Kq118 (ninS ne_a2_a1 (ninS ne_a2_b1 (ninS ne_a2_b2 nin0)))
  have Q122 : Fld Z T118.heap a2 "com/example/axiomwright/axiomwright/Arcs" "to" "[I" (.ref c2) := P8.keep Kq118 (ninS ne_a2_a1 (ninS ne_a2_b1 (ninS ne_a2_b2 nin0)))
  have Q123 : Arv Z T118.heap c1 j1 .int (16 : Int32) [(.int u0), (.int u1), (.int u2), (.int u3), (.int u4), (.int u5), (.int u6), (.int u7), (.int u8), (.int u9), (.int u10), (.int u11), (.int u12), (.int u13), (.int u14), (.int u15)] (.int (0 : Int32)) := P9.keep Kq118 (ninS ne_c1_a1 (ninS ne_c1_b1 (ninS ne_c1_b2 nin0)))
  have Q124 : Arv Z T118.heap c2 j2 .int (16 : Int32) [(.int v0), (.int v1), (.int v2), (.int v3), (.int v4), (.int v5), (.int v6), (.int v7), (.int v8), (.int v9), (.int v10), (.int v11), (.int v12), (.int v13), (.int v14), (.int v15)] (.int (0 : Int32)) := P10.keep Kq118 (ninS ne_c2_a1 (ninS ne_c2_b1 (ninS ne_c2_b2 nin0)))
  have U118_0n : Fld Z T118.heap a1 "com/example/axiomwright/axiomwright/Arcs" "size" "I" (.int (2 : Int32)) := U118_0
  have U118_3n : Arv Z T118.heap b1 k1 .int (16 : Int32) [(.int x0), (.int u0), (.int x2), (.int x3), (.int x4), (.int x5), (.int x6), (.int x7), (.int x8), (.int x9), (.int x10), (.int x11), (.int x12), (.int x13), (.int x14), (.int x15)] (.int (0 : Int32)) := U118_3
  have U118_4n : Arv Z T118.heap b2 k2 .int (16 : Int32) [(.int y0), (.int v0), (.int y2), (.int y3), (.int y4), (.int y5), (.int y6), (.int y7), (.int y8), (.int y9), (.int y10), (.int y11), (.int y12), (.int y13), (.int y14), (.int y15)] (.int (0 : Int32)) := U118_4
  have Z118 : n0 ≤ T118.heap.size := Nat.le_trans Z0 Kq118.1
  have K118 : Keep h0 T118.heap [a1, b1, b2] := K0.trans Kq118 (allS (Or.inl (List.mem_of_getElem? (i := 0) rfl)) (allS (Or.inl (List.mem_of_getElem? (i := 1) rfl)) (allS (Or.inl (List.mem_of_getElem? (i := 2) rfl)) all0)))
  have N118 := Fr.app N0 Nq118
  refine own_go (A := _) (B := T118.setTop (mkF m 26 #[.val (.ref a1), .val (.ref a2), .val (.int (0 : Int32))] [])) (fun t k => st118.trans k) ?_
  refine own_go (A := T118.setTop (mkF m 26 #[.val (.ref a1), .val (.ref a2), .val (.int (0 : Int32))] [])) (B := T118.setTop (mkF m 4 #[.val (.ref a1), .val (.ref a2), .val (.int (1 : Int32))] [(.ref a2), (.int (1 : Int32))])) (fun t k => ?_) ?_
  · show Steps p.tables e below (T118.setTop (mkF m 26 #[.val (.ref a1), .val (.ref a2), .val (.int (0 : Int32))] [])) _
    refine XS.iinc X118.here hx rfl (hb hby d3_26) rfl (l' := #[.val (.ref a1), .val (.ref a2), .val (.int (1 : Int32))]) rfl ?_
    show Steps p.tables e below (T118.setTop (mkF m 29 #[.val (.ref a1), .val (.ref a2), .val (.int (1 : Int32))] [])) _
    refine XS.goto X118.here hx rfl (pc0 := 29) (pc' := 2) rfl (hb hby d3_29) (by decide) (by decide) ?_
    show Steps p.tables e below (T118.setTop (mkF m 2 #[.val (.ref a1), .val (.ref a2), .val (.int (1 : Int32))] [])) _
    refine XS.iloadN X118.here hx rfl (hb hby d3_2) rfl ?_
    show Steps p.tables e below (T118.setTop (mkF m 3 #[.val (.ref a1), .val (.ref a2), .val (.int (1 : Int32))] [(.int (1 : Int32))])) _
    refine XS.aloadN X118.here hx rfl (hb hby d3_3) rfl rfl ?_
    exact k
  obtain ⟨T125, X125, e125, st125⟩ := getF X118 hx hZ hown (host := "") (Or.inl (hw _ (List.mem_of_getElem? (i := 19) rfl))) Via.refl rfl Q120 (g := (mkF m 4 #[.val (.ref a1), .val (.ref a2), .val (.int (1 : Int32))] [(.ref a2), (.int (1 : Int32))])) rfl rfl (hb hby d3_4)
  refine own_go st125 ?_
  refine own_go (A := T125.setTop (mkF m 7 #[.val (.ref a1), .val (.ref a2), .val (.int (1 : Int32))] [(.int (2 : Int32)), (.int (1 : Int32))])) (B := T125.setTop (mkF m 12 #[.val (.ref a1), .val (.ref a2), .val (.int (1 : Int32))] [(.ref a2), (.ref a1)])) (fun t k => ?_) ?_
  · show Steps p.tables e below (T125.setTop (mkF m 7 #[.val (.ref a1), .val (.ref a2), .val (.int (1 : Int32))] [(.int (2 : Int32)), (.int (1 : Int32))])) _
    refine XS.icmpNo X125.here hx rfl (hb hby d3_7) rfl (tlt (by decide : ((1 : Int32) < (2 : Int32)))).2.1 ?_
    show Steps p.tables e below (T125.setTop (mkF m 10 #[.val (.ref a1), .val (.ref a2), .val (.int (1 : Int32))] [])) _
    refine XS.aloadN X125.here hx rfl (hb hby d3_10) rfl rfl ?_
    show Steps p.tables e below (T125.setTop (mkF m 11 #[.val (.ref a1), .val (.ref a2), .val (.int (1 : Int32))] [(.ref a1)])) _
    refine XS.aloadN X125.here hx rfl (hb hby d3_11) rfl rfl ?_
    exact k
  obtain ⟨T127, X127, e127, st127⟩ := getF X125 hx hZ hown (host := "") (Or.inl (hw _ (List.mem_of_getElem? (i := 10) rfl))) Via.refl e125 Q121 (g := (mkF m 12 #[.val (.ref a1), .val (.ref a2), .val (.int (1 : Int32))] [(.ref a2), (.ref a1)])) rfl rfl (hb hby d3_12)
  refine own_go st127 ?_
  refine own_go (A := T127.setTop (mkF m 15 #[.val (.ref a1), .val (.ref a2), .val (.int (1 : Int32))] [(.ref c1), (.ref a1)])) (B := T127.setTop (mkF m 16 #[.val (.ref a1), .val (.ref a2), .val (.int (1 : Int32))] [(.int (1 : Int32)), (.ref c1), (.ref a1)])) (fun t k => ?_) ?_
  · show Steps p.tables e below (T127.setTop (mkF m 15 #[.val (.ref a1), .val (.ref a2), .val (.int (1 : Int32))] [(.ref c1), (.ref a1)])) _
    refine XS.iloadN X127.here hx rfl (hb hby d3_15) rfl ?_
    exact k
  obtain ⟨cl128, Ar128, q128, S128, M128, Ha128, G128⟩ := id Q123
  have hin128 : ¬ ((1 : Int32) < 0 ∨ cl128.slots.size ≤ ((1 : Int32)).toNatClampNeg) := inb_of S128 ⟨by decide, by decide⟩
  refine own_go (A := T127.setTop (mkF m 16 #[.val (.ref a1), .val (.ref a2), .val (.int (1 : Int32))] [(.int (1 : Int32)), (.ref c1), (.ref a1)])) (X127.iaload hx (j := (1 : Int32)) (v := (.int u1)) (by rw [e127]; exact Ar128.1) (State.isArrayOf_alike hZ.alike Ar128.2.1) Ar128.2.2 hin128 (Has.at Ha128 hin128 rfl) (g := (mkF m 16 #[.val (.ref a1), .val (.ref a2), .val (.int (1 : Int32))] [(.int (1 : Int32)), (.ref c1), (.ref a1)])) rfl rfl (hb hby d3_16)) ?_
  refine own_go (A := T127.setTop (mkF m 17 #[.val (.ref a1), .val (.ref a2), .val (.int (1 : Int32))] [(.int u1), (.ref a1)])) (B := T127.setTop (mkF m 18 #[.val (.ref a1), .val (.ref a2), .val (.int (1 : Int32))] [(.ref a2), (.int u1), (.ref a1)])) (fun t k => ?_) ?_
  · show Steps p.tables e below (T127.setTop (mkF m 17 #[.val (.ref a1), .val (.ref a2), .val (.int (1 : Int32))] [(.int u1), (.ref a1)])) _
    refine XS.aloadN X127.here hx rfl (hb hby d3_17) rfl rfl ?_
    exact k
  obtain ⟨T129, X129, e129, st129⟩ := getF X127 hx hZ hown (host := "") (Or.inl (hw _ (List.mem_of_getElem? (i := 12) rfl))) Via.refl e127 Q122 (g := (mkF m 18 #[.val (.ref a1), .val (.ref a2), .val (.int (1 : Int32))] [(.ref a2), (.int u1), (.ref a1)])) rfl rfl (hb hby d3_18)
  refine own_go st129 ?_
  refine own_go (A := T129.setTop (mkF m 21 #[.val (.ref a1), .val (.ref a2), .val (.int (1 : Int32))] [(.ref c2), (.int u1), (.ref a1)])) (B := T129.setTop (mkF m 22 #[.val (.ref a1), .val (.ref a2), .val (.int (1 : Int32))] [(.int (1 : Int32)), (.ref c2), (.int u1), (.ref a1)])) (fun t k => ?_) ?_
  · show Steps p.tables e below (T129.setTop (mkF m 21 #[.val (.ref a1), .val (.ref a2), .val (.int (1 : Int32))] [(.ref c2), (.int u1), (.ref a1)])) _
    refine XS.iloadN X129.here hx rfl (hb hby d3_21) rfl ?_
    exact k
  obtain ⟨cl130, Ar130, q130, S130, M130, Ha130, G130⟩ := id Q124
  have hin130 : ¬ ((1 : Int32) < 0 ∨ cl130.slots.size ≤ ((1 : Int32)).toNatClampNeg) := inb_of S130 ⟨by decide, by decide⟩
  refine own_go (A := T129.setTop (mkF m 22 #[.val (.ref a1), .val (.ref a2), .val (.int (1 : Int32))] [(.int (1 : Int32)), (.ref c2), (.int u1), (.ref a1)])) (X129.iaload hx (j := (1 : Int32)) (v := (.int v1)) (by rw [e129]; exact Ar130.1) (State.isArrayOf_alike hZ.alike Ar130.2.1) Ar130.2.2 hin130 (Has.at Ha130 hin130 rfl) (g := (mkF m 22 #[.val (.ref a1), .val (.ref a2), .val (.int (1 : Int32))] [(.int (1 : Int32)), (.ref c2), (.int u1), (.ref a1)])) rfl rfl (hb hby d3_22)) ?_
  obtain ⟨cq131, kq131, q131a, q131b, q131c⟩ := isOf hZ e129 Q119
  obtain ⟨_, _, ⟨T131, L131, k131, n131⟩, -, X131, ⟨Lc131, hQ131, l131, y131, z131⟩, st131⟩ := X129.virtualBack hx (y := (⟨"com/example/axiomwright/axiomwright/Arcs", "add", "(II)V"⟩ : MethodName)) (z := (⟨"com/example/axiomwright/axiomwright/Arcs", "add", "(II)V"⟩ : MethodName)) hown (mvT hZ (hw _ (List.mem_of_getElem? (i := 35) rfl))) (mvT hZ (hw _ (List.mem_of_getElem? (i := 31) rfl))) (notFace_of_selects (args := #[]) (mvT hZ (hw _ (List.mem_of_getElem? (i := 33) rfl)))) (mvT hZ (hw _ (List.mem_of_getElem? (i := 33) rfl))) (mvT hZ (hw _ (List.mem_of_getElem? (i := 32) rfl))) (by decide) (backOf (W := 0) (rm6 l Z a0 hw [] a1 u1 v1 (2 : Int32) b1 b2 k1 k2 [(.int x0), (.int u0), (.int x2), (.int x3), (.int x4), (.int x5), (.int x6), (.int x7), (.int x8), (.int x9), (.int x10), (.int x11), (.int x12), (.int x13), (.int x14), (.int x15)] [(.int y0), (.int v0), (.int y2), (.int y3), (.int y4), (.int y5), (.int y6), (.int y7), (.int y8), (.int y9), (.int y10), (.int y11), (.int y12), (.int y13), (.int y14), (.int y15)] T118.heap n0 Z118 Q119 U118_0n U118_1 U118_2 U118_3n U118_4n g_a1 g_b1 g_b2 ne_a1_b1 ne_a1_b2 ne_b1_b2 (by decide) (by decide) (by decide) (Nat.le_of_ble_eq_true rfl) (Nat.le_of_ble_eq_true rfl)) hZ (hw _ (List.mem_of_getElem? (i := 34) rfl)) (hw _ (List.mem_of_getElem? (i := 3) rfl)) (by decide) (by decide)) q131a q131c (g := (mkF m 23 #[.val (.ref a1), .val (.ref a2), .val (.int (1 : Int32))] [(.int v1), (.int u1), (.ref a1)])) rfl (by rw [hml]; rfl) (Steps.refl _) (argsL := [(.int u1), (.int v1)]) (rest := []) (lenOf pd_0 rfl) rfl (by show 2 * 0 + _ ≤ _; exact Nat.le_of_eq rfl) (hb hby d3_23) (fun _ _ => ⟨rfl, e129, (by decide : 0 + 0 ≤ _), (by decide : 0 + 0 ≤ _)⟩)
  dsimp only [Pt.U, Pt.locs, Pt.cells, Pt.slots] at X131 l131 y131 z131 st131 hQ131
  subst l131 y131 z131
  obtain ⟨rfl, Nq131, Kq131, U131_0, U131_1, U131_2, U131_3, U131_4⟩ := hQ131
  have Q132 : Exa Z T131.heap a1 "com/example/axiomwright/axiomwright/Arcs" := Q119.keep Kq131
  have Q133 : Fld Z T131.heap a2 "com/example/axiomwright/axiomwright/Arcs" "size" "I" (.int (2 : Int32)) := Q120.keep Kq131 (ninS ne_a2_a1 (ninS ne_a2_b1 (ninS ne_a2_b2 nin0)))
  have Q134 : Fld Z T131.heap a2 "com/example/axiomwright/axiomwright/Arcs" "from" "[I" (.ref c1) := Q121.keep Kq131 (ninS ne_a2_a1 (ninS ne_a2_b1 (ninS ne_a2_b2 nin0)))
  have Q135 : Fld Z T131.heap a2 "com/example/axiomwright/axiomwright/Arcs" "to" "[I" (.ref c2) := Q122.keep Kq131 (ninS ne_a2_a1 (ninS ne_a2_b1 (ninS ne_a2_b2 nin0)))
  have Q136 : Arv Z T131.heap c1 j1 .int (16 : Int32) [(.int u0), (.int u1), (.int u2), (.int u3), (.int u4), (.int u5), (.int u6), (.int u7), (.int u8), (.int u9), (.int u10), (.int u11), (.int u12), (.int u13), (.int u14), (.int u15)] (.int (0 : Int32)) := Q123.keep Kq131 (ninS ne_c1_a1 (ninS ne_c1_b1 (ninS ne_c1_b2 nin0)))
  have Q137 : Arv Z T131.heap c2 j2 .int (16 : Int32) [(.int v0), (.int v1), (.int v2), (.int v3), (.int v4), (.int v5), (.int v6), (.int v7), (.int v8), (.int v9), (.int v10), (.int v11), (.int v12), (.int v13), (.int v14), (.int v15)] (.int (0 : Int32)) := Q124.keep Kq131 (ninS ne_c2_a1 (ninS ne_c2_b1 (ninS ne_c2_b2 nin0)))
  have U131_0n : Fld Z T131.heap a1 "com/example/axiomwright/axiomwright/Arcs" "size" "I" (.int (3 : Int32)) := U131_0
  have U131_3n : Arv Z T131.heap b1 k1 .int (16 : Int32) [(.int x0), (.int u0), (.int u1), (.int x3), (.int x4), (.int x5), (.int x6), (.int x7), (.int x8), (.int x9), (.int x10), (.int x11), (.int x12), (.int x13), (.int x14), (.int x15)] (.int (0 : Int32)) := U131_3
  have U131_4n : Arv Z T131.heap b2 k2 .int (16 : Int32) [(.int y0), (.int v0), (.int v1), (.int y3), (.int y4), (.int y5), (.int y6), (.int y7), (.int y8), (.int y9), (.int y10), (.int y11), (.int y12), (.int y13), (.int y14), (.int y15)] (.int (0 : Int32)) := U131_4
  have Z131 : n0 ≤ T131.heap.size := Nat.le_trans Z118 Kq131.1
  have K131 : Keep h0 T131.heap [a1, b1, b2] := K118.trans Kq131 (allS (Or.inl (List.mem_of_getElem? (i := 0) rfl)) (allS (Or.inl (List.mem_of_getElem? (i := 1) rfl)) (allS (Or.inl (List.mem_of_getElem? (i := 2) rfl)) all0)))
  have N131 := Fr.app N118 Nq131
  refine own_go (A := _) (B := T131.setTop (mkF m 26 #[.val (.ref a1), .val (.ref a2), .val (.int (1 : Int32))] [])) (fun t k => st131.trans k) ?_
  refine own_go (A := T131.setTop (mkF m 26 #[.val (.ref a1), .val (.ref a2), .val (.int (1 : Int32))] [])) (B := T131.setTop (mkF m 4 #[.val (.ref a1), .val (.ref a2), .val (.int (2 : Int32))] [(.ref a2), (.int (2 : Int32))])) (fun t k => ?_) ?_
  · show Steps p.tables e below (T131.setTop (mkF m 26 #[.val (.ref a1), .val (.ref a2), .val (.int (1 : Int32))] [])) _
    refine XS.iinc X131.here hx rfl (hb hby d3_26) rfl (l' := #[.val (.ref a1), .val (.ref a2), .val (.int (2 : Int32))]) rfl ?_
    show Steps p.tables e below (T131.setTop (mkF m 29 #[.val (.ref a1), .val (.ref a2), .val (.int (2 : Int32))] [])) _
    refine XS.goto X131.here hx rfl (pc0 := 29) (pc' := 2) rfl (hb hby d3_29) (by decide) (by decide) ?_
    show Steps p.tables e below (T131.setTop (mkF m 2 #[.val (.ref a1), .val (.ref a2), .val (.int (2 : Int32))] [])) _
    refine XS.iloadN X131.here hx rfl (hb hby d3_2) rfl ?_
    show Steps p.tables e below (T131.setTop (mkF m 3 #[.val (.ref a1), .val (.ref a2), .val (.int (2 : Int32))] [(.int (2 : Int32))])) _
    refine XS.aloadN X131.here hx rfl (hb hby d3_3) rfl rfl ?_
    exact k
  obtain ⟨T138, X138, e138, st138⟩ := getF X131 hx hZ hown (host := "") (Or.inl (hw _ (List.mem_of_getElem? (i := 19) rfl))) Via.refl rfl Q133 (g := (mkF m 4 #[.val (.ref a1), .val (.ref a2), .val (.int (2 : Int32))] [(.ref a2), (.int (2 : Int32))])) rfl rfl (hb hby d3_4)
  refine own_go st138 ?_
  refine own_go (A := T138.setTop (mkF m 7 #[.val (.ref a1), .val (.ref a2), .val (.int (2 : Int32))] [(.int (2 : Int32)), (.int (2 : Int32))])) (B := T138.setTop (mkF m 32 #[.val (.ref a1), .val (.ref a2), .val (.int (2 : Int32))] [])) (fun t k => ?_) ?_
  · show Steps p.tables e below (T138.setTop (mkF m 7 #[.val (.ref a1), .val (.ref a2), .val (.int (2 : Int32))] [(.int (2 : Int32)), (.int (2 : Int32))])) _
    refine XS.icmpYes X138.here hx rfl (pc0 := 7) (pc' := 32) rfl (hb hby d3_7) rfl (flt Int32.lt_irrefl).2.1 (by decide) (by decide) ?_
    exact k
  obtain ⟨fs, hr, hrun, hended, hW, hsame⟩ := X138.leave (v := none) (fun _ => rfl)
  refine ⟨_, _, ?_, hrun, hended, _, _, rfl, ?_, ⟨_, rfl⟩, hW, hsame.mono (by decide) (by decide)⟩
  · show Steps p.tables e below (T138.setTop (mkF m 32 #[.val (.ref a1), .val (.ref a2), .val (.int (2 : Int32))] [])) _
    exact X138.returnOut hx Bd.returns (hb hby d3_32) hr
  · show Qrm3_1_2 Z a1 a2 b1 b2 c1 c2 k1 k2 j1 j2 x0 x1 x2 x3 x4 x5 x6 x7 x8 x9 x10 x11 x12 x13 x14 x15 y0 y1 y2 y3 y4 y5 y6 y7 y8 y9 y10 y11 y12 y13 y14 y15 u0 u1 u2 u3 u4 u5 u6 u7 u8 u9 u10 u11 u12 u13 u14 u15 v0 v1 v2 v3 v4 v5 v6 v7 v8 v9 v10 v11 v12 v13 v14 v15 h0 n0 _ T138.heap _
    rw [e138]
    exact ⟨rfl, N131, K131, U131_0n, U131_1, U131_2, U131_3n, U131_4n⟩
def Qrm4 (Z : State) (a1 : Addr) (w1 : Int32) (h0 : Heap) (n0 : Nat) (v : Option Value) (h : Heap) (L : List Loc) : Prop := v = some (.int w1) ∧ Fr n0 L ∧ h = h0
theorem efrm4 (m : MethodId) (x0 : Addr) : entryFrame m #[(.ref x0)] 1 = mkF m 0 #[.val (.ref x0)] [] := by first | (simp [entryFrame, mkF, argsToLocals, Value.category]; done) | rfl
set_option maxRecDepth 65536 in
set_option maxHeartbeats 40000000 in
theorem rm4 (l : Launch) (Z : State) (a0 : Array Value) (hw : ∀ d ∈ tables_1, d.before a0 Z = true) (ws : List Jvm.Cond) (a1 : Addr) (w1 : Int32) (h0 : Heap) (n0 : Nat) (Z0 : n0 ≤ h0.size) (P0 : Fld Z h0 a1 "com/example/axiomwright/axiomwright/Arcs" "size" "I" (.int w1)) :
    MetFree l (⟨"com/example/axiomwright/axiomwright/Arcs", "size", "()I"⟩ : MethodName) (head1 (Jvm.Cond.code (⟨"com/example/axiomwright/axiomwright/Arcs", "size", "()I"⟩ : MethodName) prog_2_method_5_code 1 (some .int) :: ws) ({ frames := 0, cells := 0, slots := 0, locals := 0 } : Room)) (fun a U => a = #[(.ref a1)] ∧ Z.Warmed39 U.vm ∧ U.heap = h0) (fun _ _ _ _ _ => True) (fun _ U o U' => ∃ v L, o = .returned v ∧ Qrm4 Z a1 w1 h0 n0 v U'.heap L ∧ FrameEnd U o U' L ({ frames := 0, cells := 0, slots := 0, locals := 0 } : Room).cells ({ frames := 0, cells := 0, slots := 0, locals := 0 } : Room).slots) := by
  refine MetFree.of_bodySF (plainFor_of_name pn_0) hisR ?_
  intro p e s m args below meth c s₁ Bd hml0 hP hK
  obtain ⟨rfl, hZ, hh⟩ := hP
  have hx := Bd.exec
  have hby := Bd.bytes
  have hml : c.maxLocals = 1 := hml0
  have hown : s.vm.findClass "com/example/axiomwright/axiomwright/Arcs" = some m.cls := findClass_of_methodNamed Bd.named
  have hnm := (name_of_methodNamed Bd.named Bd.method).1
  have X0 : Stand p l e ({ frames := 0, cells := 0, slots := 0, locals := 0 } : Room) s m #[(.ref a1)] below meth c s₁ [] 0 0 := Stand.of_body Bd
  have e0 : s₁.heap = h0 := by rw [← hh, Bd.state]; rfl
  have N0 := Fr.nil n0
  have K0 : Keep h0 h0 [] := Keep.refl h0 _
  refine own_go (B := s₁.setTop (mkF m 0 #[.val (.ref a1)] [])) (fun t k => castTop (efrm4 m a1) k) ?_
  refine own_go (A := s₁.setTop (mkF m 0 #[.val (.ref a1)] [])) (B := s₁.setTop (mkF m 1 #[.val (.ref a1)] [(.ref a1)])) (fun t k => ?_) ?_
  · show Steps p.tables e below (s₁.setTop (mkF m 0 #[.val (.ref a1)] [])) _
    refine XS.aloadN X0.here hx rfl (hb hby d4_0) rfl rfl ?_
    exact k
  obtain ⟨T140, X140, e140, st140⟩ := getF X0 hx hZ hown (host := "") (Or.inl (hw _ (List.mem_of_getElem? (i := 19) rfl))) Via.refl e0 P0 (g := (mkF m 1 #[.val (.ref a1)] [(.ref a1)])) rfl rfl (hb hby d4_1)
  refine own_go st140 ?_
  obtain ⟨fs, hr, hrun, hended, hW, hsame⟩ := X140.leave (v := some (.int w1)) (fun h => by rw [Bd.returns] at h; cases h)
  refine ⟨_, _, ?_, hrun, hended, _, _, rfl, ?_, ⟨_, rfl⟩, hW, hsame.mono (by decide) (by decide)⟩
  · show Steps p.tables e below (T140.setTop (mkF m 4 #[.val (.ref a1)] [(.int w1)])) _
    exact retOut X140 hx Bd.returns rfl (Or.inl ⟨rfl, Or.inl rfl, _, rfl⟩) (hb hby d4_4) hr
  · show Qrm4 Z a1 w1 h0 n0 _ T140.heap _
    rw [e140]
    exact ⟨rfl, N0, rfl⟩
def Qrm7_0_16 (Z : State) (a1 : Addr) (b1 : Addr) (k1 : ClassId) (x0 : Int32) (x1 : Int32) (x2 : Int32) (x3 : Int32) (x4 : Int32) (x5 : Int32) (x6 : Int32) (x7 : Int32) (x8 : Int32) (x9 : Int32) (x10 : Int32) (x11 : Int32) (x12 : Int32) (x13 : Int32) (x14 : Int32) (x15 : Int32) (h0 : Heap) (n0 : Nat) (v : Option Value) (h : Heap) (L : List Loc) : Prop := v = some (.int x0) ∧ Fr n0 L ∧ h = h0
theorem efrm7_0_16 (m : MethodId) (x0 : Addr) : entryFrame m #[(.ref x0), (.int (0 : Int32))] 2 = mkF m 0 #[.val (.ref x0), .val (.int (0 : Int32))] [] := by first | (simp [entryFrame, mkF, argsToLocals, Value.category]; done) | rfl
set_option maxRecDepth 65536 in
set_option maxHeartbeats 40000000 in
theorem rm7_0_16 (l : Launch) (Z : State) (a0 : Array Value) (hw : ∀ d ∈ tables_1, d.before a0 Z = true) (ws : List Jvm.Cond) (a1 : Addr) (b1 : Addr) (k1 : ClassId) (x0 : Int32) (x1 : Int32) (x2 : Int32) (x3 : Int32) (x4 : Int32) (x5 : Int32) (x6 : Int32) (x7 : Int32) (x8 : Int32) (x9 : Int32) (x10 : Int32) (x11 : Int32) (x12 : Int32) (x13 : Int32) (x14 : Int32) (x15 : Int32) (h0 : Heap) (n0 : Nat) (Z0 : n0 ≤ h0.size) (P0 : Fld Z h0 a1 "com/example/axiomwright/axiomwright/Arcs" "from" "[I" (.ref b1)) (P1 : Arv Z h0 b1 k1 .int (16 : Int32) [(.int x0), (.int x1), (.int x2), (.int x3), (.int x4), (.int x5), (.int x6), (.int x7), (.int x8), (.int x9), (.int x10), (.int x11), (.int x12), (.int x13), (.int x14), (.int x15)] (.int (0 : Int32))) :
    MetFree l (⟨"com/example/axiomwright/axiomwright/Arcs", "tail", "(I)I"⟩ : MethodName) (head1 (Jvm.Cond.code (⟨"com/example/axiomwright/axiomwright/Arcs", "tail", "(I)I"⟩ : MethodName) prog_2_method_6_code 2 (some .int) :: ws) ({ frames := 0, cells := 0, slots := 0, locals := 0 } : Room)) (fun a U => a = #[(.ref a1), (.int (0 : Int32))] ∧ Z.Warmed39 U.vm ∧ U.heap = h0) (fun _ _ _ _ _ => True) (fun _ U o U' => ∃ v L, o = .returned v ∧ Qrm7_0_16 Z a1 b1 k1 x0 x1 x2 x3 x4 x5 x6 x7 x8 x9 x10 x11 x12 x13 x14 x15 h0 n0 v U'.heap L ∧ FrameEnd U o U' L ({ frames := 0, cells := 0, slots := 0, locals := 0 } : Room).cells ({ frames := 0, cells := 0, slots := 0, locals := 0 } : Room).slots) := by
  refine MetFree.of_bodySF (plainFor_of_name pn_0) hisR ?_
  intro p e s m args below meth c s₁ Bd hml0 hP hK
  obtain ⟨rfl, hZ, hh⟩ := hP
  have hx := Bd.exec
  have hby := Bd.bytes
  have hml : c.maxLocals = 2 := hml0
  have hown : s.vm.findClass "com/example/axiomwright/axiomwright/Arcs" = some m.cls := findClass_of_methodNamed Bd.named
  have hnm := (name_of_methodNamed Bd.named Bd.method).1
  have X0 : Stand p l e ({ frames := 0, cells := 0, slots := 0, locals := 0 } : Room) s m #[(.ref a1), (.int (0 : Int32))] below meth c s₁ [] 0 0 := Stand.of_body Bd
  have e0 : s₁.heap = h0 := by rw [← hh, Bd.state]; rfl
  have N0 := Fr.nil n0
  have K0 : Keep h0 h0 [] := Keep.refl h0 _
  refine own_go (B := s₁.setTop (mkF m 0 #[.val (.ref a1), .val (.int (0 : Int32))] [])) (fun t k => castTop (efrm7_0_16 m a1) k) ?_
  refine own_go (A := s₁.setTop (mkF m 0 #[.val (.ref a1), .val (.int (0 : Int32))] [])) (B := s₁.setTop (mkF m 1 #[.val (.ref a1), .val (.int (0 : Int32))] [(.ref a1)])) (fun t k => ?_) ?_
  · show Steps p.tables e below (s₁.setTop (mkF m 0 #[.val (.ref a1), .val (.int (0 : Int32))] [])) _
    refine XS.aloadN X0.here hx rfl (hb hby d7_0) rfl rfl ?_
    exact k
  obtain ⟨T141, X141, e141, st141⟩ := getF X0 hx hZ hown (host := "") (Or.inl (hw _ (List.mem_of_getElem? (i := 10) rfl))) Via.refl e0 P0 (g := (mkF m 1 #[.val (.ref a1), .val (.int (0 : Int32))] [(.ref a1)])) rfl rfl (hb hby d7_1)
  refine own_go st141 ?_
  refine own_go (A := T141.setTop (mkF m 4 #[.val (.ref a1), .val (.int (0 : Int32))] [(.ref b1)])) (B := T141.setTop (mkF m 5 #[.val (.ref a1), .val (.int (0 : Int32))] [(.int (0 : Int32)), (.ref b1)])) (fun t k => ?_) ?_
  · show Steps p.tables e below (T141.setTop (mkF m 4 #[.val (.ref a1), .val (.int (0 : Int32))] [(.ref b1)])) _
    refine XS.iloadN X141.here hx rfl (hb hby d7_4) rfl ?_
    exact k
  obtain ⟨cl142, Ar142, q142, S142, M142, Ha142, G142⟩ := id P1
  have hin142 : ¬ ((0 : Int32) < 0 ∨ cl142.slots.size ≤ ((0 : Int32)).toNatClampNeg) := inb_of S142 ⟨by decide, by decide⟩
  refine own_go (A := T141.setTop (mkF m 5 #[.val (.ref a1), .val (.int (0 : Int32))] [(.int (0 : Int32)), (.ref b1)])) (X141.iaload hx (j := (0 : Int32)) (v := (.int x0)) (by rw [e141]; exact Ar142.1) (State.isArrayOf_alike hZ.alike Ar142.2.1) Ar142.2.2 hin142 (Has.at Ha142 hin142 rfl) (g := (mkF m 5 #[.val (.ref a1), .val (.int (0 : Int32))] [(.int (0 : Int32)), (.ref b1)])) rfl rfl (hb hby d7_5)) ?_
  obtain ⟨fs, hr, hrun, hended, hW, hsame⟩ := X141.leave (v := some (.int x0)) (fun h => by rw [Bd.returns] at h; cases h)
  refine ⟨_, _, ?_, hrun, hended, _, _, rfl, ?_, ⟨_, rfl⟩, hW, hsame.mono (by decide) (by decide)⟩
  · show Steps p.tables e below (T141.setTop (mkF m 6 #[.val (.ref a1), .val (.int (0 : Int32))] [(.int x0)])) _
    exact retOut X141 hx Bd.returns rfl (Or.inl ⟨rfl, Or.inl rfl, _, rfl⟩) (hb hby d7_6) hr
  · show Qrm7_0_16 Z a1 b1 k1 x0 x1 x2 x3 x4 x5 x6 x7 x8 x9 x10 x11 x12 x13 x14 x15 h0 n0 _ T141.heap _
    rw [e141]
    exact ⟨rfl, N0, rfl⟩
def Qrm8_0_16 (Z : State) (a1 : Addr) (b1 : Addr) (k1 : ClassId) (x0 : Int32) (x1 : Int32) (x2 : Int32) (x3 : Int32) (x4 : Int32) (x5 : Int32) (x6 : Int32) (x7 : Int32) (x8 : Int32) (x9 : Int32) (x10 : Int32) (x11 : Int32) (x12 : Int32) (x13 : Int32) (x14 : Int32) (x15 : Int32) (h0 : Heap) (n0 : Nat) (v : Option Value) (h : Heap) (L : List Loc) : Prop := v = some (.int x0) ∧ Fr n0 L ∧ h = h0
theorem efrm8_0_16 (m : MethodId) (x0 : Addr) : entryFrame m #[(.ref x0), (.int (0 : Int32))] 2 = mkF m 0 #[.val (.ref x0), .val (.int (0 : Int32))] [] := by first | (simp [entryFrame, mkF, argsToLocals, Value.category]; done) | rfl
set_option maxRecDepth 65536 in
set_option maxHeartbeats 40000000 in
theorem rm8_0_16 (l : Launch) (Z : State) (a0 : Array Value) (hw : ∀ d ∈ tables_1, d.before a0 Z = true) (ws : List Jvm.Cond) (a1 : Addr) (b1 : Addr) (k1 : ClassId) (x0 : Int32) (x1 : Int32) (x2 : Int32) (x3 : Int32) (x4 : Int32) (x5 : Int32) (x6 : Int32) (x7 : Int32) (x8 : Int32) (x9 : Int32) (x10 : Int32) (x11 : Int32) (x12 : Int32) (x13 : Int32) (x14 : Int32) (x15 : Int32) (h0 : Heap) (n0 : Nat) (Z0 : n0 ≤ h0.size) (P0 : Fld Z h0 a1 "com/example/axiomwright/axiomwright/Arcs" "to" "[I" (.ref b1)) (P1 : Arv Z h0 b1 k1 .int (16 : Int32) [(.int x0), (.int x1), (.int x2), (.int x3), (.int x4), (.int x5), (.int x6), (.int x7), (.int x8), (.int x9), (.int x10), (.int x11), (.int x12), (.int x13), (.int x14), (.int x15)] (.int (0 : Int32))) :
    MetFree l (⟨"com/example/axiomwright/axiomwright/Arcs", "head", "(I)I"⟩ : MethodName) (head1 (Jvm.Cond.code (⟨"com/example/axiomwright/axiomwright/Arcs", "head", "(I)I"⟩ : MethodName) prog_2_method_7_code 2 (some .int) :: ws) ({ frames := 0, cells := 0, slots := 0, locals := 0 } : Room)) (fun a U => a = #[(.ref a1), (.int (0 : Int32))] ∧ Z.Warmed39 U.vm ∧ U.heap = h0) (fun _ _ _ _ _ => True) (fun _ U o U' => ∃ v L, o = .returned v ∧ Qrm8_0_16 Z a1 b1 k1 x0 x1 x2 x3 x4 x5 x6 x7 x8 x9 x10 x11 x12 x13 x14 x15 h0 n0 v U'.heap L ∧ FrameEnd U o U' L ({ frames := 0, cells := 0, slots := 0, locals := 0 } : Room).cells ({ frames := 0, cells := 0, slots := 0, locals := 0 } : Room).slots) := by
  refine MetFree.of_bodySF (plainFor_of_name pn_0) hisR ?_
  intro p e s m args below meth c s₁ Bd hml0 hP hK
  obtain ⟨rfl, hZ, hh⟩ := hP
  have hx := Bd.exec
  have hby := Bd.bytes
  have hml : c.maxLocals = 2 := hml0
  have hown : s.vm.findClass "com/example/axiomwright/axiomwright/Arcs" = some m.cls := findClass_of_methodNamed Bd.named
  have hnm := (name_of_methodNamed Bd.named Bd.method).1
  have X0 : Stand p l e ({ frames := 0, cells := 0, slots := 0, locals := 0 } : Room) s m #[(.ref a1), (.int (0 : Int32))] below meth c s₁ [] 0 0 := Stand.of_body Bd
  have e0 : s₁.heap = h0 := by rw [← hh, Bd.state]; rfl
  have N0 := Fr.nil n0
  have K0 : Keep h0 h0 [] := Keep.refl h0 _
  refine own_go (B := s₁.setTop (mkF m 0 #[.val (.ref a1), .val (.int (0 : Int32))] [])) (fun t k => castTop (efrm8_0_16 m a1) k) ?_
  refine own_go (A := s₁.setTop (mkF m 0 #[.val (.ref a1), .val (.int (0 : Int32))] [])) (B := s₁.setTop (mkF m 1 #[.val (.ref a1), .val (.int (0 : Int32))] [(.ref a1)])) (fun t k => ?_) ?_
  · show Steps p.tables e below (s₁.setTop (mkF m 0 #[.val (.ref a1), .val (.int (0 : Int32))] [])) _
    refine XS.aloadN X0.here hx rfl (hb hby d8_0) rfl rfl ?_
    exact k
  obtain ⟨T143, X143, e143, st143⟩ := getF X0 hx hZ hown (host := "") (Or.inl (hw _ (List.mem_of_getElem? (i := 12) rfl))) Via.refl e0 P0 (g := (mkF m 1 #[.val (.ref a1), .val (.int (0 : Int32))] [(.ref a1)])) rfl rfl (hb hby d8_1)
  refine own_go st143 ?_
  refine own_go (A := T143.setTop (mkF m 4 #[.val (.ref a1), .val (.int (0 : Int32))] [(.ref b1)])) (B := T143.setTop (mkF m 5 #[.val (.ref a1), .val (.int (0 : Int32))] [(.int (0 : Int32)), (.ref b1)])) (fun t k => ?_) ?_
  · show Steps p.tables e below (T143.setTop (mkF m 4 #[.val (.ref a1), .val (.int (0 : Int32))] [(.ref b1)])) _
    refine XS.iloadN X143.here hx rfl (hb hby d8_4) rfl ?_
    exact k
  obtain ⟨cl144, Ar144, q144, S144, M144, Ha144, G144⟩ := id P1
  have hin144 : ¬ ((0 : Int32) < 0 ∨ cl144.slots.size ≤ ((0 : Int32)).toNatClampNeg) := inb_of S144 ⟨by decide, by decide⟩
  refine own_go (A := T143.setTop (mkF m 5 #[.val (.ref a1), .val (.int (0 : Int32))] [(.int (0 : Int32)), (.ref b1)])) (X143.iaload hx (j := (0 : Int32)) (v := (.int x0)) (by rw [e143]; exact Ar144.1) (State.isArrayOf_alike hZ.alike Ar144.2.1) Ar144.2.2 hin144 (Has.at Ha144 hin144 rfl) (g := (mkF m 5 #[.val (.ref a1), .val (.int (0 : Int32))] [(.int (0 : Int32)), (.ref b1)])) rfl rfl (hb hby d8_5)) ?_
  obtain ⟨fs, hr, hrun, hended, hW, hsame⟩ := X143.leave (v := some (.int x0)) (fun h => by rw [Bd.returns] at h; cases h)
  refine ⟨_, _, ?_, hrun, hended, _, _, rfl, ?_, ⟨_, rfl⟩, hW, hsame.mono (by decide) (by decide)⟩
  · show Steps p.tables e below (T143.setTop (mkF m 6 #[.val (.ref a1), .val (.int (0 : Int32))] [(.int x0)])) _
    exact retOut X143 hx Bd.returns rfl (Or.inl ⟨rfl, Or.inl rfl, _, rfl⟩) (hb hby d8_6) hr
  · show Qrm8_0_16 Z a1 b1 k1 x0 x1 x2 x3 x4 x5 x6 x7 x8 x9 x10 x11 x12 x13 x14 x15 h0 n0 _ T143.heap _
    rw [e143]
    exact ⟨rfl, N0, rfl⟩
def Qrm7_1_16 (Z : State) (a1 : Addr) (b1 : Addr) (k1 : ClassId) (x0 : Int32) (x1 : Int32) (x2 : Int32) (x3 : Int32) (x4 : Int32) (x5 : Int32) (x6 : Int32) (x7 : Int32) (x8 : Int32) (x9 : Int32) (x10 : Int32) (x11 : Int32) (x12 : Int32) (x13 : Int32) (x14 : Int32) (x15 : Int32) (h0 : Heap) (n0 : Nat) (v : Option Value) (h : Heap) (L : List Loc) : Prop := v = some (.int x1) ∧ Fr n0 L ∧ h = h0
theorem efrm7_1_16 (m : MethodId) (x0 : Addr) : entryFrame m #[(.ref x0), (.int (1 : Int32))] 2 = mkF m 0 #[.val (.ref x0), .val (.int (1 : Int32))] [] := by first | (simp [entryFrame, mkF, argsToLocals, Value.category]; done) | rfl
set_option maxRecDepth 65536 in
set_option maxHeartbeats 40000000 in
theorem rm7_1_16 (l : Launch) (Z : State) (a0 : Array Value) (hw : ∀ d ∈ tables_1, d.before a0 Z = true) (ws : List Jvm.Cond) (a1 : Addr) (b1 : Addr) (k1 : ClassId) (x0 : Int32) (x1 : Int32) (x2 : Int32) (x3 : Int32) (x4 : Int32) (x5 : Int32) (x6 : Int32) (x7 : Int32) (x8 : Int32) (x9 : Int32) (x10 : Int32) (x11 : Int32) (x12 : Int32) (x13 : Int32) (x14 : Int32) (x15 : Int32) (h0 : Heap) (n0 : Nat) (Z0 : n0 ≤ h0.size) (P0 : Fld Z h0 a1 "com/example/axiomwright/axiomwright/Arcs" "from" "[I" (.ref b1)) (P1 : Arv Z h0 b1 k1 .int (16 : Int32) [(.int x0), (.int x1), (.int x2), (.int x3), (.int x4), (.int x5), (.int x6), (.int x7), (.int x8), (.int x9), (.int x10), (.int x11), (.int x12), (.int x13), (.int x14), (.int x15)] (.int (0 : Int32))) :
    MetFree l (⟨"com/example/axiomwright/axiomwright/Arcs", "tail", "(I)I"⟩ : MethodName) (head1 (Jvm.Cond.code (⟨"com/example/axiomwright/axiomwright/Arcs", "tail", "(I)I"⟩ : MethodName) prog_2_method_6_code 2 (some .int) :: ws) ({ frames := 0, cells := 0, slots := 0, locals := 0 } : Room)) (fun a U => a = #[(.ref a1), (.int (1 : Int32))] ∧ Z.Warmed39 U.vm ∧ U.heap = h0) (fun _ _ _ _ _ => True) (fun _ U o U' => ∃ v L, o = .returned v ∧ Qrm7_1_16 Z a1 b1 k1 x0 x1 x2 x3 x4 x5 x6 x7 x8 x9 x10 x11 x12 x13 x14 x15 h0 n0 v U'.heap L ∧ FrameEnd U o U' L ({ frames := 0, cells := 0, slots := 0, locals := 0 } : Room).cells ({ frames := 0, cells := 0, slots := 0, locals := 0 } : Room).slots) := by
  refine MetFree.of_bodySF (plainFor_of_name pn_0) hisR ?_
  intro p e s m args below meth c s₁ Bd hml0 hP hK
  obtain ⟨rfl, hZ, hh⟩ := hP
  have hx := Bd.exec
  have hby := Bd.bytes
  have hml : c.maxLocals = 2 := hml0
  have hown : s.vm.findClass "com/example/axiomwright/axiomwright/Arcs" = some m.cls := findClass_of_methodNamed Bd.named
  have hnm := (name_of_methodNamed Bd.named Bd.method).1
  have X0 : Stand p l e ({ frames := 0, cells := 0, slots := 0, locals := 0 } : Room) s m #[(.ref a1), (.int (1 : Int32))] below meth c s₁ [] 0 0 := Stand.of_body Bd
  have e0 : s₁.heap = h0 := by rw [← hh, Bd.state]; rfl
  have N0 := Fr.nil n0
  have K0 : Keep h0 h0 [] := Keep.refl h0 _
  refine own_go (B := s₁.setTop (mkF m 0 #[.val (.ref a1), .val (.int (1 : Int32))] [])) (fun t k => castTop (efrm7_1_16 m a1) k) ?_
  refine own_go (A := s₁.setTop (mkF m 0 #[.val (.ref a1), .val (.int (1 : Int32))] [])) (B := s₁.setTop (mkF m 1 #[.val (.ref a1), .val (.int (1 : Int32))] [(.ref a1)])) (fun t k => ?_) ?_
  · show Steps p.tables e below (s₁.setTop (mkF m 0 #[.val (.ref a1), .val (.int (1 : Int32))] [])) _
    refine XS.aloadN X0.here hx rfl (hb hby d7_0) rfl rfl ?_
    exact k
  obtain ⟨T145, X145, e145, st145⟩ := getF X0 hx hZ hown (host := "") (Or.inl (hw _ (List.mem_of_getElem? (i := 10) rfl))) Via.refl e0 P0 (g := (mkF m 1 #[.val (.ref a1), .val (.int (1 : Int32))] [(.ref a1)])) rfl rfl (hb hby d7_1)
  refine own_go st145 ?_
  refine own_go (A := T145.setTop (mkF m 4 #[.val (.ref a1), .val (.int (1 : Int32))] [(.ref b1)])) (B := T145.setTop (mkF m 5 #[.val (.ref a1), .val (.int (1 : Int32))] [(.int (1 : Int32)), (.ref b1)])) (fun t k => ?_) ?_
  · show Steps p.tables e below (T145.setTop (mkF m 4 #[.val (.ref a1), .val (.int (1 : Int32))] [(.ref b1)])) _
    refine XS.iloadN X145.here hx rfl (hb hby d7_4) rfl ?_
    exact k
  obtain ⟨cl146, Ar146, q146, S146, M146, Ha146, G146⟩ := id P1
  have hin146 : ¬ ((1 : Int32) < 0 ∨ cl146.slots.size ≤ ((1 : Int32)).toNatClampNeg) := inb_of S146 ⟨by decide, by decide⟩
  refine own_go (A := T145.setTop (mkF m 5 #[.val (.ref a1), .val (.int (1 : Int32))] [(.int (1 : Int32)), (.ref b1)])) (X145.iaload hx (j := (1 : Int32)) (v := (.int x1)) (by rw [e145]; exact Ar146.1) (State.isArrayOf_alike hZ.alike Ar146.2.1) Ar146.2.2 hin146 (Has.at Ha146 hin146 rfl) (g := (mkF m 5 #[.val (.ref a1), .val (.int (1 : Int32))] [(.int (1 : Int32)), (.ref b1)])) rfl rfl (hb hby d7_5)) ?_
  obtain ⟨fs, hr, hrun, hended, hW, hsame⟩ := X145.leave (v := some (.int x1)) (fun h => by rw [Bd.returns] at h; cases h)
  refine ⟨_, _, ?_, hrun, hended, _, _, rfl, ?_, ⟨_, rfl⟩, hW, hsame.mono (by decide) (by decide)⟩
  · show Steps p.tables e below (T145.setTop (mkF m 6 #[.val (.ref a1), .val (.int (1 : Int32))] [(.int x1)])) _
    exact retOut X145 hx Bd.returns rfl (Or.inl ⟨rfl, Or.inl rfl, _, rfl⟩) (hb hby d7_6) hr
  · show Qrm7_1_16 Z a1 b1 k1 x0 x1 x2 x3 x4 x5 x6 x7 x8 x9 x10 x11 x12 x13 x14 x15 h0 n0 _ T145.heap _
    rw [e145]
    exact ⟨rfl, N0, rfl⟩
def Qrm8_1_16 (Z : State) (a1 : Addr) (b1 : Addr) (k1 : ClassId) (x0 : Int32) (x1 : Int32) (x2 : Int32) (x3 : Int32) (x4 : Int32) (x5 : Int32) (x6 : Int32) (x7 : Int32) (x8 : Int32) (x9 : Int32) (x10 : Int32) (x11 : Int32) (x12 : Int32) (x13 : Int32) (x14 : Int32) (x15 : Int32) (h0 : Heap) (n0 : Nat) (v : Option Value) (h : Heap) (L : List Loc) : Prop := v = some (.int x1) ∧ Fr n0 L ∧ h = h0
theorem efrm8_1_16 (m : MethodId) (x0 : Addr) : entryFrame m #[(.ref x0), (.int (1 : Int32))] 2 = mkF m 0 #[.val (.ref x0), .val (.int (1 : Int32))] [] := by first | (simp [entryFrame, mkF, argsToLocals, Value.category]; done) | rfl
set_option maxRecDepth 65536 in
set_option maxHeartbeats 40000000 in
theorem rm8_1_16 (l : Launch) (Z : State) (a0 : Array Value) (hw : ∀ d ∈ tables_1, d.before a0 Z = true) (ws : List Jvm.Cond) (a1 : Addr) (b1 : Addr) (k1 : ClassId) (x0 : Int32) (x1 : Int32) (x2 : Int32) (x3 : Int32) (x4 : Int32) (x5 : Int32) (x6 : Int32) (x7 : Int32) (x8 : Int32) (x9 : Int32) (x10 : Int32) (x11 : Int32) (x12 : Int32) (x13 : Int32) (x14 : Int32) (x15 : Int32) (h0 : Heap) (n0 : Nat) (Z0 : n0 ≤ h0.size) (P0 : Fld Z h0 a1 "com/example/axiomwright/axiomwright/Arcs" "to" "[I" (.ref b1)) (P1 : Arv Z h0 b1 k1 .int (16 : Int32) [(.int x0), (.int x1), (.int x2), (.int x3), (.int x4), (.int x5), (.int x6), (.int x7), (.int x8), (.int x9), (.int x10), (.int x11), (.int x12), (.int x13), (.int x14), (.int x15)] (.int (0 : Int32))) :
    MetFree l (⟨"com/example/axiomwright/axiomwright/Arcs", "head", "(I)I"⟩ : MethodName) (head1 (Jvm.Cond.code (⟨"com/example/axiomwright/axiomwright/Arcs", "head", "(I)I"⟩ : MethodName) prog_2_method_7_code 2 (some .int) :: ws) ({ frames := 0, cells := 0, slots := 0, locals := 0 } : Room)) (fun a U => a = #[(.ref a1), (.int (1 : Int32))] ∧ Z.Warmed39 U.vm ∧ U.heap = h0) (fun _ _ _ _ _ => True) (fun _ U o U' => ∃ v L, o = .returned v ∧ Qrm8_1_16 Z a1 b1 k1 x0 x1 x2 x3 x4 x5 x6 x7 x8 x9 x10 x11 x12 x13 x14 x15 h0 n0 v U'.heap L ∧ FrameEnd U o U' L ({ frames := 0, cells := 0, slots := 0, locals := 0 } : Room).cells ({ frames := 0, cells := 0, slots := 0, locals := 0 } : Room).slots) := by
  refine MetFree.of_bodySF (plainFor_of_name pn_0) hisR ?_
  intro p e s m args below meth c s₁ Bd hml0 hP hK
  obtain ⟨rfl, hZ, hh⟩ := hP
  have hx := Bd.exec
  have hby := Bd.bytes
  have hml : c.maxLocals = 2 := hml0
  have hown : s.vm.findClass "com/example/axiomwright/axiomwright/Arcs" = some m.cls := findClass_of_methodNamed Bd.named
  have hnm := (name_of_methodNamed Bd.named Bd.method).1
  have X0 : Stand p l e ({ frames := 0, cells := 0, slots := 0, locals := 0 } : Room) s m #[(.ref a1), (.int (1 : Int32))] below meth c s₁ [] 0 0 := Stand.of_body Bd
  have e0 : s₁.heap = h0 := by rw [← hh, Bd.state]; rfl
  have N0 := Fr.nil n0
  have K0 : Keep h0 h0 [] := Keep.refl h0 _
  refine own_go (B := s₁.setTop (mkF m 0 #[.val (.ref a1), .val (.int (1 : Int32))] [])) (fun t k => castTop (efrm8_1_16 m a1) k) ?_
  refine own_go (A := s₁.setTop (mkF m 0 #[.val (.ref a1), .val (.int (1 : Int32))] [])) (B := s₁.setTop (mkF m 1 #[.val (.ref a1), .val (.int (1 : Int32))] [(.ref a1)])) (fun t k => ?_) ?_
  · show Steps p.tables e below (s₁.setTop (mkF m 0 #[.val (.ref a1), .val (.int (1 : Int32))] [])) _
    refine XS.aloadN X0.here hx rfl (hb hby d8_0) rfl rfl ?_
    exact k
  obtain ⟨T147, X147, e147, st147⟩ := getF X0 hx hZ hown (host := "") (Or.inl (hw _ (List.mem_of_getElem? (i := 12) rfl))) Via.refl e0 P0 (g := (mkF m 1 #[.val (.ref a1), .val (.int (1 : Int32))] [(.ref a1)])) rfl rfl (hb hby d8_1)
  refine own_go st147 ?_
  refine own_go (A := T147.setTop (mkF m 4 #[.val (.ref a1), .val (.int (1 : Int32))] [(.ref b1)])) (B := T147.setTop (mkF m 5 #[.val (.ref a1), .val (.int (1 : Int32))] [(.int (1 : Int32)), (.ref b1)])) (fun t k => ?_) ?_
  · show Steps p.tables e below (T147.setTop (mkF m 4 #[.val (.ref a1), .val (.int (1 : Int32))] [(.ref b1)])) _
    refine XS.iloadN X147.here hx rfl (hb hby d8_4) rfl ?_
    exact k
  obtain ⟨cl148, Ar148, q148, S148, M148, Ha148, G148⟩ := id P1
  have hin148 : ¬ ((1 : Int32) < 0 ∨ cl148.slots.size ≤ ((1 : Int32)).toNatClampNeg) := inb_of S148 ⟨by decide, by decide⟩
  refine own_go (A := T147.setTop (mkF m 5 #[.val (.ref a1), .val (.int (1 : Int32))] [(.int (1 : Int32)), (.ref b1)])) (X147.iaload hx (j := (1 : Int32)) (v := (.int x1)) (by rw [e147]; exact Ar148.1) (State.isArrayOf_alike hZ.alike Ar148.2.1) Ar148.2.2 hin148 (Has.at Ha148 hin148 rfl) (g := (mkF m 5 #[.val (.ref a1), .val (.int (1 : Int32))] [(.int (1 : Int32)), (.ref b1)])) rfl rfl (hb hby d8_5)) ?_
  obtain ⟨fs, hr, hrun, hended, hW, hsame⟩ := X147.leave (v := some (.int x1)) (fun h => by rw [Bd.returns] at h; cases h)
  refine ⟨_, _, ?_, hrun, hended, _, _, rfl, ?_, ⟨_, rfl⟩, hW, hsame.mono (by decide) (by decide)⟩
  · show Steps p.tables e below (T147.setTop (mkF m 6 #[.val (.ref a1), .val (.int (1 : Int32))] [(.int x1)])) _
    exact retOut X147 hx Bd.returns rfl (Or.inl ⟨rfl, Or.inl rfl, _, rfl⟩) (hb hby d8_6) hr
  · show Qrm8_1_16 Z a1 b1 k1 x0 x1 x2 x3 x4 x5 x6 x7 x8 x9 x10 x11 x12 x13 x14 x15 h0 n0 _ T147.heap _
    rw [e147]
    exact ⟨rfl, N0, rfl⟩
def Qrm7_2_16 (Z : State) (a1 : Addr) (b1 : Addr) (k1 : ClassId) (x0 : Int32) (x1 : Int32) (x2 : Int32) (x3 : Int32) (x4 : Int32) (x5 : Int32) (x6 : Int32) (x7 : Int32) (x8 : Int32) (x9 : Int32) (x10 : Int32) (x11 : Int32) (x12 : Int32) (x13 : Int32) (x14 : Int32) (x15 : Int32) (h0 : Heap) (n0 : Nat) (v : Option Value) (h : Heap) (L : List Loc) : Prop := v = some (.int x2) ∧ Fr n0 L ∧ h = h0
theorem efrm7_2_16 (m : MethodId) (x0 : Addr) : entryFrame m #[(.ref x0), (.int (2 : Int32))] 2 = mkF m 0 #[.val (.ref x0), .val (.int (2 : Int32))] [] := by first | (simp [entryFrame, mkF, argsToLocals, Value.category]; done) | rfl
set_option maxRecDepth 65536 in
set_option maxHeartbeats 40000000 in
theorem rm7_2_16 (l : Launch) (Z : State) (a0 : Array Value) (hw : ∀ d ∈ tables_1, d.before a0 Z = true) (ws : List Jvm.Cond) (a1 : Addr) (b1 : Addr) (k1 : ClassId) (x0 : Int32) (x1 : Int32) (x2 : Int32) (x3 : Int32) (x4 : Int32) (x5 : Int32) (x6 : Int32) (x7 : Int32) (x8 : Int32) (x9 : Int32) (x10 : Int32) (x11 : Int32) (x12 : Int32) (x13 : Int32) (x14 : Int32) (x15 : Int32) (h0 : Heap) (n0 : Nat) (Z0 : n0 ≤ h0.size) (P0 : Fld Z h0 a1 "com/example/axiomwright/axiomwright/Arcs" "from" "[I" (.ref b1)) (P1 : Arv Z h0 b1 k1 .int (16 : Int32) [(.int x0), (.int x1), (.int x2), (.int x3), (.int x4), (.int x5), (.int x6), (.int x7), (.int x8), (.int x9), (.int x10), (.int x11), (.int x12), (.int x13), (.int x14), (.int x15)] (.int (0 : Int32))) :
    MetFree l (⟨"com/example/axiomwright/axiomwright/Arcs", "tail", "(I)I"⟩ : MethodName) (head1 (Jvm.Cond.code (⟨"com/example/axiomwright/axiomwright/Arcs", "tail", "(I)I"⟩ : MethodName) prog_2_method_6_code 2 (some .int) :: ws) ({ frames := 0, cells := 0, slots := 0, locals := 0 } : Room)) (fun a U => a = #[(.ref a1), (.int (2 : Int32))] ∧ Z.Warmed39 U.vm ∧ U.heap = h0) (fun _ _ _ _ _ => True) (fun _ U o U' => ∃ v L, o = .returned v ∧ Qrm7_2_16 Z a1 b1 k1 x0 x1 x2 x3 x4 x5 x6 x7 x8 x9 x10 x11 x12 x13 x14 x15 h0 n0 v U'.heap L ∧ FrameEnd U o U' L ({ frames := 0, cells := 0, slots := 0, locals := 0 } : Room).cells ({ frames := 0, cells := 0, slots := 0, locals := 0 } : Room).slots) := by
  refine MetFree.of_bodySF (plainFor_of_name pn_0) hisR ?_
  intro p e s m args below meth c s₁ Bd hml0 hP hK
  obtain ⟨rfl, hZ, hh⟩ := hP
  have hx := Bd.exec
  have hby := Bd.bytes
  have hml : c.maxLocals = 2 := hml0
  have hown : s.vm.findClass "com/example/axiomwright/axiomwright/Arcs" = some m.cls := findClass_of_methodNamed Bd.named
  have hnm := (name_of_methodNamed Bd.named Bd.method).1
  have X0 : Stand p l e ({ frames := 0, cells := 0, slots := 0, locals := 0 } : Room) s m #[(.ref a1), (.int (2 : Int32))] below meth c s₁ [] 0 0 := Stand.of_body Bd
  have e0 : s₁.heap = h0 := by rw [← hh, Bd.state]; rfl
  have N0 := Fr.nil n0
  have K0 : Keep h0 h0 [] := Keep.refl h0 _
  refine own_go (B := s₁.setTop (mkF m 0 #[.val (.ref a1), .val (.int (2 : Int32))] [])) (fun t k => castTop (efrm7_2_16 m a1) k) ?_
  refine own_go (A := s₁.setTop (mkF m 0 #[.val (.ref a1), .val (.int (2 : Int32))] [])) (B := s₁.setTop (mkF m 1 #[.val (.ref a1), .val (.int (2 : Int32))] [(.ref a1)])) (fun t k => ?_) ?_
  · show Steps p.tables e below (s₁.setTop (mkF m 0 #[.val (.ref a1), .val (.int (2 : Int32))] [])) _
    refine XS.aloadN X0.here hx rfl (hb hby d7_0) rfl rfl ?_
    exact k
  obtain ⟨T149, X149, e149, st149⟩ := getF X0 hx hZ hown (host := "") (Or.inl (hw _ (List.mem_of_getElem? (i := 10) rfl))) Via.refl e0 P0 (g := (mkF m 1 #[.val (.ref a1), .val (.int (2 : Int32))] [(.ref a1)])) rfl rfl (hb hby d7_1)
  refine own_go st149 ?_
  refine own_go (A := T149.setTop (mkF m 4 #[.val (.ref a1), .val (.int (2 : Int32))] [(.ref b1)])) (B := T149.setTop (mkF m 5 #[.val (.ref a1), .val (.int (2 : Int32))] [(.int (2 : Int32)), (.ref b1)])) (fun t k => ?_) ?_
  · show Steps p.tables e below (T149.setTop (mkF m 4 #[.val (.ref a1), .val (.int (2 : Int32))] [(.ref b1)])) _
    refine XS.iloadN X149.here hx rfl (hb hby d7_4) rfl ?_
    exact k
  obtain ⟨cl150, Ar150, q150, S150, M150, Ha150, G150⟩ := id P1
  have hin150 : ¬ ((2 : Int32) < 0 ∨ cl150.slots.size ≤ ((2 : Int32)).toNatClampNeg) := inb_of S150 ⟨by decide, by decide⟩
  refine own_go (A := T149.setTop (mkF m 5 #[.val (.ref a1), .val (.int (2 : Int32))] [(.int (2 : Int32)), (.ref b1)])) (X149.iaload hx (j := (2 : Int32)) (v := (.int x2)) (by rw [e149]; exact Ar150.1) (State.isArrayOf_alike hZ.alike Ar150.2.1) Ar150.2.2 hin150 (Has.at Ha150 hin150 rfl) (g := (mkF m 5 #[.val (.ref a1), .val (.int (2 : Int32))] [(.int (2 : Int32)), (.ref b1)])) rfl rfl (hb hby d7_5)) ?_
  obtain ⟨fs, hr, hrun, hended, hW, hsame⟩ := X149.leave (v := some (.int x2)) (fun h => by rw [Bd.returns] at h; cases h)
  refine ⟨_, _, ?_, hrun, hended, _, _, rfl, ?_, ⟨_, rfl⟩, hW, hsame.mono (by decide) (by decide)⟩
  · show Steps p.tables e below (T149.setTop (mkF m 6 #[.val (.ref a1), .val (.int (2 : Int32))] [(.int x2)])) _
    exact retOut X149 hx Bd.returns rfl (Or.inl ⟨rfl, Or.inl rfl, _, rfl⟩) (hb hby d7_6) hr
  · show Qrm7_2_16 Z a1 b1 k1 x0 x1 x2 x3 x4 x5 x6 x7 x8 x9 x10 x11 x12 x13 x14 x15 h0 n0 _ T149.heap _
    rw [e149]
    exact ⟨rfl, N0, rfl⟩
def Qrm8_2_16 (Z : State) (a1 : Addr) (b1 : Addr) (k1 : ClassId) (x0 : Int32) (x1 : Int32) (x2 : Int32) (x3 : Int32) (x4 : Int32) (x5 : Int32) (x6 : Int32) (x7 : Int32) (x8 : Int32) (x9 : Int32) (x10 : Int32) (x11 : Int32) (x12 : Int32) (x13 : Int32) (x14 : Int32) (x15 : Int32) (h0 : Heap) (n0 : Nat) (v : Option Value) (h : Heap) (L : List Loc) : Prop := v = some (.int x2) ∧ Fr n0 L ∧ h = h0
theorem efrm8_2_16 (m : MethodId) (x0 : Addr) : entryFrame m #[(.ref x0), (.int (2 : Int32))] 2 = mkF m 0 #[.val (.ref x0), .val (.int (2 : Int32))] [] := by first | (simp [entryFrame, mkF, argsToLocals, Value.category]; done) | rfl
set_option maxRecDepth 65536 in
set_option maxHeartbeats 40000000 in
theorem rm8_2_16 (l : Launch) (Z : State) (a0 : Array Value) (hw : ∀ d ∈ tables_1, d.before a0 Z = true) (ws : List Jvm.Cond) (a1 : Addr) (b1 : Addr) (k1 : ClassId) (x0 : Int32) (x1 : Int32) (x2 : Int32) (x3 : Int32) (x4 : Int32) (x5 : Int32) (x6 : Int32) (x7 : Int32) (x8 : Int32) (x9 : Int32) (x10 : Int32) (x11 : Int32) (x12 : Int32) (x13 : Int32) (x14 : Int32) (x15 : Int32) (h0 : Heap) (n0 : Nat) (Z0 : n0 ≤ h0.size) (P0 : Fld Z h0 a1 "com/example/axiomwright/axiomwright/Arcs" "to" "[I" (.ref b1)) (P1 : Arv Z h0 b1 k1 .int (16 : Int32) [(.int x0), (.int x1), (.int x2), (.int x3), (.int x4), (.int x5), (.int x6), (.int x7), (.int x8), (.int x9), (.int x10), (.int x11), (.int x12), (.int x13), (.int x14), (.int x15)] (.int (0 : Int32))) :
    MetFree l (⟨"com/example/axiomwright/axiomwright/Arcs", "head", "(I)I"⟩ : MethodName) (head1 (Jvm.Cond.code (⟨"com/example/axiomwright/axiomwright/Arcs", "head", "(I)I"⟩ : MethodName) prog_2_method_7_code 2 (some .int) :: ws) ({ frames := 0, cells := 0, slots := 0, locals := 0 } : Room)) (fun a U => a = #[(.ref a1), (.int (2 : Int32))] ∧ Z.Warmed39 U.vm ∧ U.heap = h0) (fun _ _ _ _ _ => True) (fun _ U o U' => ∃ v L, o = .returned v ∧ Qrm8_2_16 Z a1 b1 k1 x0 x1 x2 x3 x4 x5 x6 x7 x8 x9 x10 x11 x12 x13 x14 x15 h0 n0 v U'.heap L ∧ FrameEnd U o U' L ({ frames := 0, cells := 0, slots := 0, locals := 0 } : Room).cells ({ frames := 0, cells := 0, slots := 0, locals := 0 } : Room).slots) := by
  refine MetFree.of_bodySF (plainFor_of_name pn_0) hisR ?_
  intro p e s m args below meth c s₁ Bd hml0 hP hK
  obtain ⟨rfl, hZ, hh⟩ := hP
  have hx := Bd.exec
  have hby := Bd.bytes
  have hml : c.maxLocals = 2 := hml0
  have hown : s.vm.findClass "com/example/axiomwright/axiomwright/Arcs" = some m.cls := findClass_of_methodNamed Bd.named
  have hnm := (name_of_methodNamed Bd.named Bd.method).1
  have X0 : Stand p l e ({ frames := 0, cells := 0, slots := 0, locals := 0 } : Room) s m #[(.ref a1), (.int (2 : Int32))] below meth c s₁ [] 0 0 := Stand.of_body Bd
  have e0 : s₁.heap = h0 := by rw [← hh, Bd.state]; rfl
  have N0 := Fr.nil n0
  have K0 : Keep h0 h0 [] := Keep.refl h0 _
  refine own_go (B := s₁.setTop (mkF m 0 #[.val (.ref a1), .val (.int (2 : Int32))] [])) (fun t k => castTop (efrm8_2_16 m a1) k) ?_
  refine own_go (A := s₁.setTop (mkF m 0 #[.val (.ref a1), .val (.int (2 : Int32))] [])) (B := s₁.setTop (mkF m 1 #[.val (.ref a1), .val (.int (2 : Int32))] [(.ref a1)])) (fun t k => ?_) ?_
  · show Steps p.tables e below (s₁.setTop (mkF m 0 #[.val (.ref a1), .val (.int (2 : Int32))] [])) _
    refine XS.aloadN X0.here hx rfl (hb hby d8_0) rfl rfl ?_
    exact k
  obtain ⟨T151, X151, e151, st151⟩ := getF X0 hx hZ hown (host := "") (Or.inl (hw _ (List.mem_of_getElem? (i := 12) rfl))) Via.refl e0 P0 (g := (mkF m 1 #[.val (.ref a1), .val (.int (2 : Int32))] [(.ref a1)])) rfl rfl (hb hby d8_1)
  refine own_go st151 ?_
  refine own_go (A := T151.setTop (mkF m 4 #[.val (.ref a1), .val (.int (2 : Int32))] [(.ref b1)])) (B := T151.setTop (mkF m 5 #[.val (.ref a1), .val (.int (2 : Int32))] [(.int (2 : Int32)), (.ref b1)])) (fun t k => ?_) ?_
  · show Steps p.tables e below (T151.setTop (mkF m 4 #[.val (.ref a1), .val (.int (2 : Int32))] [(.ref b1)])) _
    refine XS.iloadN X151.here hx rfl (hb hby d8_4) rfl ?_
    exact k
  obtain ⟨cl152, Ar152, q152, S152, M152, Ha152, G152⟩ := id P1
  have hin152 : ¬ ((2 : Int32) < 0 ∨ cl152.slots.size ≤ ((2 : Int32)).toNatClampNeg) := inb_of S152 ⟨by decide, by decide⟩
  refine own_go (A := T151.setTop (mkF m 5 #[.val (.ref a1), .val (.int (2 : Int32))] [(.int (2 : Int32)), (.ref b1)])) (X151.iaload hx (j := (2 : Int32)) (v := (.int x2)) (by rw [e151]; exact Ar152.1) (State.isArrayOf_alike hZ.alike Ar152.2.1) Ar152.2.2 hin152 (Has.at Ha152 hin152 rfl) (g := (mkF m 5 #[.val (.ref a1), .val (.int (2 : Int32))] [(.int (2 : Int32)), (.ref b1)])) rfl rfl (hb hby d8_5)) ?_
  obtain ⟨fs, hr, hrun, hended, hW, hsame⟩ := X151.leave (v := some (.int x2)) (fun h => by rw [Bd.returns] at h; cases h)
  refine ⟨_, _, ?_, hrun, hended, _, _, rfl, ?_, ⟨_, rfl⟩, hW, hsame.mono (by decide) (by decide)⟩
  · show Steps p.tables e below (T151.setTop (mkF m 6 #[.val (.ref a1), .val (.int (2 : Int32))] [(.int x2)])) _
    exact retOut X151 hx Bd.returns rfl (Or.inl ⟨rfl, Or.inl rfl, _, rfl⟩) (hb hby d8_6) hr
  · show Qrm8_2_16 Z a1 b1 k1 x0 x1 x2 x3 x4 x5 x6 x7 x8 x9 x10 x11 x12 x13 x14 x15 h0 n0 _ T151.heap _
    rw [e151]
    exact ⟨rfl, N0, rfl⟩
def Qrm5_0_0 (Z : State) (a1 : Addr) (a4 : Addr) (a5 : Addr) (h0 : Heap) (n0 : Nat) (v : Option Value) (h : Heap) (L : List Loc) : Prop := v = some (.int (1 : Int32)) ∧ Fr n0 L ∧ h = h0
theorem efrm5_0_0 (m : MethodId) (x0 : Addr) (x3 : Addr) (x4 : Addr) : entryFrame m #[(.ref x0), (.int (0 : Int32)), (.int (0 : Int32)), (.ref x3), (.ref x4)] 5 = mkF m 0 #[.val (.ref x0), .val (.int (0 : Int32)), .val (.int (0 : Int32)), .val (.ref x3), .val (.ref x4)] [] := by first | (simp [entryFrame, mkF, argsToLocals, Value.category]; done) | rfl
set_option maxRecDepth 65536 in
set_option maxHeartbeats 40000000 in
theorem rm5_0_0 (l : Launch) (Z : State) (a0 : Array Value) (hw : ∀ d ∈ tables_1, d.before a0 Z = true) (ws : List Jvm.Cond) (a1 : Addr) (a4 : Addr) (a5 : Addr) (h0 : Heap) (n0 : Nat) (Z0 : n0 ≤ h0.size)  :
    MetFree l (⟨"com/example/axiomwright/axiomwright/ArcsAddAllPinLaw", "at", "(Lcom/example/axiomwright/axiomwright/Arcs;II[I[I)Z"⟩ : MethodName) (head1 (Jvm.Cond.code (⟨"com/example/axiomwright/axiomwright/ArcsAddAllPinLaw", "at", "(Lcom/example/axiomwright/axiomwright/Arcs;II[I[I)Z"⟩ : MethodName) method_2_code 5 (some .boolean) :: ws) ({ frames := 0, cells := 0, slots := 0, locals := 0 } : Room)) (fun a U => a = #[(.ref a1), (.int (0 : Int32)), (.int (0 : Int32)), (.ref a4), (.ref a5)] ∧ Z.Warmed39 U.vm ∧ U.heap = h0) (fun _ _ _ _ _ => True) (fun _ U o U' => ∃ v L, o = .returned v ∧ Qrm5_0_0 Z a1 a4 a5 h0 n0 v U'.heap L ∧ FrameEnd U o U' L ({ frames := 0, cells := 0, slots := 0, locals := 0 } : Room).cells ({ frames := 0, cells := 0, slots := 0, locals := 0 } : Room).slots) := by
  refine MetFree.of_bodySF (plainFor_of_name pn_1) hisR ?_
  intro p e s m args below meth c s₁ Bd hml0 hP hK
  obtain ⟨rfl, hZ, hh⟩ := hP
  have hx := Bd.exec
  have hby := Bd.bytes
  have hml : c.maxLocals = 5 := hml0
  have hown : s.vm.findClass "com/example/axiomwright/axiomwright/ArcsAddAllPinLaw" = some m.cls := findClass_of_methodNamed Bd.named
  have hnm := (name_of_methodNamed Bd.named Bd.method).1
  have X0 : Stand p l e ({ frames := 0, cells := 0, slots := 0, locals := 0 } : Room) s m #[(.ref a1), (.int (0 : Int32)), (.int (0 : Int32)), (.ref a4), (.ref a5)] below meth c s₁ [] 0 0 := Stand.of_body Bd
  have e0 : s₁.heap = h0 := by rw [← hh, Bd.state]; rfl
  have N0 := Fr.nil n0
  have K0 : Keep h0 h0 [] := Keep.refl h0 _
  refine own_go (B := s₁.setTop (mkF m 0 #[.val (.ref a1), .val (.int (0 : Int32)), .val (.int (0 : Int32)), .val (.ref a4), .val (.ref a5)] [])) (fun t k => castTop (efrm5_0_0 m a1 a4 a5) k) ?_
  refine own_go (A := s₁.setTop (mkF m 0 #[.val (.ref a1), .val (.int (0 : Int32)), .val (.int (0 : Int32)), .val (.ref a4), .val (.ref a5)] [])) (B := s₁.setTop (mkF m 33 #[.val (.ref a1), .val (.int (0 : Int32)), .val (.int (0 : Int32)), .val (.ref a4), .val (.ref a5)] [(.int (1 : Int32))])) (fun t k => ?_) ?_
  · show Steps p.tables e below (s₁.setTop (mkF m 0 #[.val (.ref a1), .val (.int (0 : Int32)), .val (.int (0 : Int32)), .val (.ref a4), .val (.ref a5)] [])) _
    refine XS.iloadN X0.here hx rfl (hb hby d5_0) rfl ?_
    show Steps p.tables e below (s₁.setTop (mkF m 1 #[.val (.ref a1), .val (.int (0 : Int32)), .val (.int (0 : Int32)), .val (.ref a4), .val (.ref a5)] [(.int (0 : Int32))])) _
    refine XS.iloadN X0.here hx rfl (hb hby d5_1) rfl ?_
    show Steps p.tables e below (s₁.setTop (mkF m 2 #[.val (.ref a1), .val (.int (0 : Int32)), .val (.int (0 : Int32)), .val (.ref a4), .val (.ref a5)] [(.int (0 : Int32)), (.int (0 : Int32))])) _
    refine XS.icmpYes X0.here hx rfl (pc0 := 2) (pc' := 28) rfl (hb hby d5_2) rfl (flt Int32.lt_irrefl).2.1 (by decide) (by decide) ?_
    show Steps p.tables e below (s₁.setTop (mkF m 28 #[.val (.ref a1), .val (.int (0 : Int32)), .val (.int (0 : Int32)), .val (.ref a4), .val (.ref a5)] [])) _
    refine XS.iconst X0.here hx rfl (hb hby d5_28) ?_
    show Steps p.tables e below (s₁.setTop (mkF m 29 #[.val (.ref a1), .val (.int (0 : Int32)), .val (.int (0 : Int32)), .val (.ref a4), .val (.ref a5)] [(.int (1 : Int32))])) _
    refine XS.goto X0.here hx rfl (pc0 := 29) (pc' := 33) rfl (hb hby d5_29) (by decide) (by decide) ?_
    exact k
  obtain ⟨fs, hr, hrun, hended, hW, hsame⟩ := X0.leave (v := some (.int (1 : Int32))) (fun h => by rw [Bd.returns] at h; cases h)
  refine ⟨_, _, ?_, hrun, hended, _, _, rfl, ?_, ⟨_, rfl⟩, hW, hsame.mono (by decide) (by decide)⟩
  · show Steps p.tables e below (s₁.setTop (mkF m 33 #[.val (.ref a1), .val (.int (0 : Int32)), .val (.int (0 : Int32)), .val (.ref a4), .val (.ref a5)] [(.int (1 : Int32))])) _
    exact retN X0 hx (t := .boolean) Bd.returns (by simp) (hb hby d5_33) hr
  · show Qrm5_0_0 Z a1 a4 a5 h0 n0 _ s₁.heap _
    rw [e0]
    exact ⟨rfl, N0, rfl⟩
def frm5_0_1 (x0 : Int32) (y0 : Int32) (l0 : Int32) (m0 : Int32) : Int32 := (if x0 = l0 then (if y0 = m0 then (1 : Int32) else (0 : Int32)) else (0 : Int32))
def Qrm5_0_1 (Z : State) (a1 : Addr) (a4 : Addr) (a5 : Addr) (b1 : Addr) (b2 : Addr) (k1 : ClassId) (k2 : ClassId) (k3 : ClassId) (k4 : ClassId) (x0 : Int32) (x1 : Int32) (x2 : Int32) (x3 : Int32) (x4 : Int32) (x5 : Int32) (x6 : Int32) (x7 : Int32) (x8 : Int32) (x9 : Int32) (x10 : Int32) (x11 : Int32) (x12 : Int32) (x13 : Int32) (x14 : Int32) (x15 : Int32) (y0 : Int32) (y1 : Int32) (y2 : Int32) (y3 : Int32) (y4 : Int32) (y5 : Int32) (y6 : Int32) (y7 : Int32) (y8 : Int32) (y9 : Int32) (y10 : Int32) (y11 : Int32) (y12 : Int32) (y13 : Int32) (y14 : Int32) (y15 : Int32) (l0 : Int32) (l1 : Int32) (l2 : Int32) (m0 : Int32) (m1 : Int32) (m2 : Int32) (h0 : Heap) (n0 : Nat) (v : Option Value) (h : Heap) (L : List Loc) : Prop := v = some (.int (frm5_0_1 x0 y0 l0 m0)) ∧ Fr n0 L ∧ h = h0
theorem efrm5_0_1 (m : MethodId) (x0 : Addr) (x3 : Addr) (x4 : Addr) : entryFrame m #[(.ref x0), (.int (0 : Int32)), (.int (1 : Int32)), (.ref x3), (.ref x4)] 5 = mkF m 0 #[.val (.ref x0), .val (.int (0 : Int32)), .val (.int (1 : Int32)), .val (.ref x3), .val (.ref x4)] [] := by first | (simp [entryFrame, mkF, argsToLocals, Value.category]; done) | rfl
set_option maxRecDepth 65536 in
set_option maxHeartbeats 40000000 in
theorem rm5_0_1 (l : Launch) (Z : State) (a0 : Array Value) (hw : ∀ d ∈ tables_1, d.before a0 Z = true) (ws : List Jvm.Cond) (a1 : Addr) (a4 : Addr) (a5 : Addr) (b1 : Addr) (b2 : Addr) (k1 : ClassId) (k2 : ClassId) (k3 : ClassId) (k4 : ClassId) (x0 : Int32) (x1 : Int32) (x2 : Int32) (x3 : Int32) (x4 : Int32) (x5 : Int32) (x6 : Int32) (x7 : Int32) (x8 : Int32) (x9 : Int32) (x10 : Int32) (x11 : Int32) (x12 : Int32) (x13 : Int32) (x14 : Int32) (x15 : Int32) (y0 : Int32) (y1 : Int32) (y2 : Int32) (y3 : Int32) (y4 : Int32) (y5 : Int32) (y6 : Int32) (y7 : Int32) (y8 : Int32) (y9 : Int32) (y10 : Int32) (y11 : Int32) (y12 : Int32) (y13 : Int32) (y14 : Int32) (y15 : Int32) (l0 : Int32) (l1 : Int32) (l2 : Int32) (m0 : Int32) (m1 : Int32) (m2 : Int32) (h0 : Heap) (n0 : Nat) (Z0 : n0 ≤ h0.size) (P0 : Exa Z h0 a1 "com/example/axiomwright/axiomwright/Arcs") (P1 : Fld Z h0 a1 "com/example/axiomwright/axiomwright/Arcs" "from" "[I" (.ref b1)) (P2 : Fld Z h0 a1 "com/example/axiomwright/axiomwright/Arcs" "to" "[I" (.ref b2)) (P3 : Arv Z h0 b1 k1 .int (16 : Int32) [(.int x0), (.int x1), (.int x2), (.int x3), (.int x4), (.int x5), (.int x6), (.int x7), (.int x8), (.int x9), (.int x10), (.int x11), (.int x12), (.int x13), (.int x14), (.int x15)] (.int (0 : Int32))) (P4 : Arv Z h0 b2 k2 .int (16 : Int32) [(.int y0), (.int y1), (.int y2), (.int y3), (.int y4), (.int y5), (.int y6), (.int y7), (.int y8), (.int y9), (.int y10), (.int y11), (.int y12), (.int y13), (.int y14), (.int y15)] (.int (0 : Int32))) (P5 : Arv Z h0 a4 k3 .int (3 : Int32) [(.int l0), (.int l1), (.int l2)] (.int (0 : Int32))) (P6 : Arv Z h0 a5 k4 .int (3 : Int32) [(.int m0), (.int m1), (.int m2)] (.int (0 : Int32))) :
    MetFree l (⟨"com/example/axiomwright/axiomwright/ArcsAddAllPinLaw", "at", "(Lcom/example/axiomwright/axiomwright/Arcs;II[I[I)Z"⟩ : MethodName) (head1 (Jvm.Cond.code (⟨"com/example/axiomwright/axiomwright/ArcsAddAllPinLaw", "at", "(Lcom/example/axiomwright/axiomwright/Arcs;II[I[I)Z"⟩ : MethodName) method_2_code 5 (some .boolean) :: ws) ({ frames := 1, cells := 0, slots := 0, locals := 13 } : Room)) (fun a U => a = #[(.ref a1), (.int (0 : Int32)), (.int (1 : Int32)), (.ref a4), (.ref a5)] ∧ Z.Warmed39 U.vm ∧ U.heap = h0) (fun _ _ _ _ _ => True) (fun _ U o U' => ∃ v L, o = .returned v ∧ Qrm5_0_1 Z a1 a4 a5 b1 b2 k1 k2 k3 k4 x0 x1 x2 x3 x4 x5 x6 x7 x8 x9 x10 x11 x12 x13 x14 x15 y0 y1 y2 y3 y4 y5 y6 y7 y8 y9 y10 y11 y12 y13 y14 y15 l0 l1 l2 m0 m1 m2 h0 n0 v U'.heap L ∧ FrameEnd U o U' L ({ frames := 1, cells := 0, slots := 0, locals := 13 } : Room).cells ({ frames := 1, cells := 0, slots := 0, locals := 13 } : Room).slots) := by
  refine MetFree.of_bodySF (plainFor_of_name pn_1) hisR ?_
  intro p e s m args below meth c s₁ Bd hml0 hP hK
  obtain ⟨rfl, hZ, hh⟩ := hP
  have hx := Bd.exec
  have hby := Bd.bytes
  have hml : c.maxLocals = 5 := hml0
  have hown : s.vm.findClass "com/example/axiomwright/axiomwright/ArcsAddAllPinLaw" = some m.cls := findClass_of_methodNamed Bd.named
  have hnm := (name_of_methodNamed Bd.named Bd.method).1
  have X0 : Stand p l e ({ frames := 1, cells := 0, slots := 0, locals := 13 } : Room) s m #[(.ref a1), (.int (0 : Int32)), (.int (1 : Int32)), (.ref a4), (.ref a5)] below meth c s₁ [] 0 0 := Stand.of_body Bd
  have e0 : s₁.heap = h0 := by rw [← hh, Bd.state]; rfl
  have N0 := Fr.nil n0
  have K0 : Keep h0 h0 [] := Keep.refl h0 _
  refine own_go (B := s₁.setTop (mkF m 0 #[.val (.ref a1), .val (.int (0 : Int32)), .val (.int (1 : Int32)), .val (.ref a4), .val (.ref a5)] [])) (fun t k => castTop (efrm5_0_1 m a1 a4 a5) k) ?_
  refine own_go (A := s₁.setTop (mkF m 0 #[.val (.ref a1), .val (.int (0 : Int32)), .val (.int (1 : Int32)), .val (.ref a4), .val (.ref a5)] [])) (B := s₁.setTop (mkF m 7 #[.val (.ref a1), .val (.int (0 : Int32)), .val (.int (1 : Int32)), .val (.ref a4), .val (.ref a5)] [(.int (0 : Int32)), (.ref a1)])) (fun t k => ?_) ?_
  · show Steps p.tables e below (s₁.setTop (mkF m 0 #[.val (.ref a1), .val (.int (0 : Int32)), .val (.int (1 : Int32)), .val (.ref a4), .val (.ref a5)] [])) _
    refine XS.iloadN X0.here hx rfl (hb hby d5_0) rfl ?_
    show Steps p.tables e below (s₁.setTop (mkF m 1 #[.val (.ref a1), .val (.int (0 : Int32)), .val (.int (1 : Int32)), .val (.ref a4), .val (.ref a5)] [(.int (0 : Int32))])) _
    refine XS.iloadN X0.here hx rfl (hb hby d5_1) rfl ?_
    show Steps p.tables e below (s₁.setTop (mkF m 2 #[.val (.ref a1), .val (.int (0 : Int32)), .val (.int (1 : Int32)), .val (.ref a4), .val (.ref a5)] [(.int (1 : Int32)), (.int (0 : Int32))])) _
    refine XS.icmpNo X0.here hx rfl (hb hby d5_2) rfl (tlt (by decide : ((0 : Int32) < (1 : Int32)))).2.1 ?_
    show Steps p.tables e below (s₁.setTop (mkF m 5 #[.val (.ref a1), .val (.int (0 : Int32)), .val (.int (1 : Int32)), .val (.ref a4), .val (.ref a5)] [])) _
    refine XS.aloadN X0.here hx rfl (hb hby d5_5) rfl rfl ?_
    show Steps p.tables e below (s₁.setTop (mkF m 6 #[.val (.ref a1), .val (.int (0 : Int32)), .val (.int (1 : Int32)), .val (.ref a4), .val (.ref a5)] [(.ref a1)])) _
    refine XS.iloadN X0.here hx rfl (hb hby d5_6) rfl ?_
    exact k
  obtain ⟨cq155, kq155, q155a, q155b, q155c⟩ := isOf hZ e0 P0
  obtain ⟨_, _, ⟨T155, L155, k155, n155⟩, -, X155, ⟨Lc155, hQ155, l155, y155, z155⟩, st155⟩ := X0.virtualBack hx (y := (⟨"com/example/axiomwright/axiomwright/Arcs", "tail", "(I)I"⟩ : MethodName)) (z := (⟨"com/example/axiomwright/axiomwright/Arcs", "tail", "(I)I"⟩ : MethodName)) hown (mvT hZ (hw _ (List.mem_of_getElem? (i := 36) rfl))) (mvT hZ (hw _ (List.mem_of_getElem? (i := 37) rfl))) (notFace_of_selects (args := #[]) (mvT hZ (hw _ (List.mem_of_getElem? (i := 39) rfl)))) (mvT hZ (hw _ (List.mem_of_getElem? (i := 39) rfl))) (mvT hZ (hw _ (List.mem_of_getElem? (i := 38) rfl))) (by decide) (backOf (W := 0) (rm7_0_16 l Z a0 hw [] a1 b1 k1 x0 x1 x2 x3 x4 x5 x6 x7 x8 x9 x10 x11 x12 x13 x14 x15 h0 n0 Z0 P1 P3) hZ (hw _ (List.mem_of_getElem? (i := 40) rfl)) (hw _ (List.mem_of_getElem? (i := 3) rfl)) (by decide) (by decide)) q155a q155c (g := (mkF m 7 #[.val (.ref a1), .val (.int (0 : Int32)), .val (.int (1 : Int32)), .val (.ref a4), .val (.ref a5)] [(.int (0 : Int32)), (.ref a1)])) rfl (by rw [hml]; rfl) (Steps.refl _) (argsL := [(.int (0 : Int32))]) (rest := []) (lenOf pd_1 rfl) rfl (by show 2 * 0 + _ ≤ _; exact Nat.le_of_eq rfl) (hb hby d5_7) (fun _ _ => ⟨rfl, e0, (by decide : 0 + 0 ≤ _), (by decide : 0 + 0 ≤ _)⟩)
  dsimp only [Pt.U, Pt.locs, Pt.cells, Pt.slots] at X155 l155 y155 z155 st155 hQ155
  subst l155 y155 z155
  obtain ⟨rfl, Nq155, e155⟩ := hQ155
  have N155 := Fr.app N0 Nq155
  refine own_go (A := _) (B := T155.setTop (mkF m 10 #[.val (.ref a1), .val (.int (0 : Int32)), .val (.int (1 : Int32)), .val (.ref a4), .val (.ref a5)] [(.int x0)])) (fun t k => st155.trans k) ?_
  refine own_go (A := T155.setTop (mkF m 10 #[.val (.ref a1), .val (.int (0 : Int32)), .val (.int (1 : Int32)), .val (.ref a4), .val (.ref a5)] [(.int x0)])) (B := T155.setTop (mkF m 12 #[.val (.ref a1), .val (.int (0 : Int32)), .val (.int (1 : Int32)), .val (.ref a4), .val (.ref a5)] [(.int (0 : Int32)), (.ref a4), (.int x0)])) (fun t k => ?_) ?_
  · show Steps p.tables e below (T155.setTop (mkF m 10 #[.val (.ref a1), .val (.int (0 : Int32)), .val (.int (1 : Int32)), .val (.ref a4), .val (.ref a5)] [(.int x0)])) _
    refine XS.aloadN X155.here hx rfl (hb hby d5_10) rfl rfl ?_
    show Steps p.tables e below (T155.setTop (mkF m 11 #[.val (.ref a1), .val (.int (0 : Int32)), .val (.int (1 : Int32)), .val (.ref a4), .val (.ref a5)] [(.ref a4), (.int x0)])) _
    refine XS.iloadN X155.here hx rfl (hb hby d5_11) rfl ?_
    exact k
  obtain ⟨cl156, Ar156, q156, S156, M156, Ha156, G156⟩ := id P5
  have hin156 : ¬ ((0 : Int32) < 0 ∨ cl156.slots.size ≤ ((0 : Int32)).toNatClampNeg) := inb_of S156 ⟨by decide, by decide⟩
  refine own_go (A := T155.setTop (mkF m 12 #[.val (.ref a1), .val (.int (0 : Int32)), .val (.int (1 : Int32)), .val (.ref a4), .val (.ref a5)] [(.int (0 : Int32)), (.ref a4), (.int x0)])) (X155.iaload hx (j := (0 : Int32)) (v := (.int l0)) (by rw [e155]; exact Ar156.1) (State.isArrayOf_alike hZ.alike Ar156.2.1) Ar156.2.2 hin156 (Has.at Ha156 hin156 rfl) (g := (mkF m 12 #[.val (.ref a1), .val (.int (0 : Int32)), .val (.int (1 : Int32)), .val (.ref a4), .val (.ref a5)] [(.int (0 : Int32)), (.ref a4), (.int x0)])) rfl rfl (hb hby d5_12)) ?_
  by_cases hc13_157 : x0 = l0
  · refine own_go (A := T155.setTop (mkF m 13 #[.val (.ref a1), .val (.int (0 : Int32)), .val (.int (1 : Int32)), .val (.ref a4), .val (.ref a5)] [(.int l0), (.int x0)])) (B := T155.setTop (mkF m 16 #[.val (.ref a1), .val (.int (0 : Int32)), .val (.int (1 : Int32)), .val (.ref a4), .val (.ref a5)] [])) (fun t k => ?_) ?_
    · show Steps p.tables e below (T155.setTop (mkF m 13 #[.val (.ref a1), .val (.int (0 : Int32)), .val (.int (1 : Int32)), .val (.ref a4), .val (.ref a5)] [(.int l0), (.int x0)])) _
      refine XS.icmpNo X155.here hx rfl (hb hby d5_13) rfl (teq hc13_157).2 ?_
      exact k
    refine own_go (A := T155.setTop (mkF m 16 #[.val (.ref a1), .val (.int (0 : Int32)), .val (.int (1 : Int32)), .val (.ref a4), .val (.ref a5)] [])) (B := T155.setTop (mkF m 18 #[.val (.ref a1), .val (.int (0 : Int32)), .val (.int (1 : Int32)), .val (.ref a4), .val (.ref a5)] [(.int (0 : Int32)), (.ref a1)])) (fun t k => ?_) ?_
    · show Steps p.tables e below (T155.setTop (mkF m 16 #[.val (.ref a1), .val (.int (0 : Int32)), .val (.int (1 : Int32)), .val (.ref a4), .val (.ref a5)] [])) _
      refine XS.aloadN X155.here hx rfl (hb hby d5_16) rfl rfl ?_
      show Steps p.tables e below (T155.setTop (mkF m 17 #[.val (.ref a1), .val (.int (0 : Int32)), .val (.int (1 : Int32)), .val (.ref a4), .val (.ref a5)] [(.ref a1)])) _
      refine XS.iloadN X155.here hx rfl (hb hby d5_17) rfl ?_
      exact k
    obtain ⟨cq158, kq158, q158a, q158b, q158c⟩ := isOf hZ e155 P0
    obtain ⟨_, _, ⟨T158, L158, k158, n158⟩, -, X158, ⟨Lc158, hQ158, l158, y158, z158⟩, st158⟩ := X155.virtualBack hx (y := (⟨"com/example/axiomwright/axiomwright/Arcs", "head", "(I)I"⟩ : MethodName)) (z := (⟨"com/example/axiomwright/axiomwright/Arcs", "head", "(I)I"⟩ : MethodName)) hown (mvT hZ (hw _ (List.mem_of_getElem? (i := 41) rfl))) (mvT hZ (hw _ (List.mem_of_getElem? (i := 42) rfl))) (notFace_of_selects (args := #[]) (mvT hZ (hw _ (List.mem_of_getElem? (i := 44) rfl)))) (mvT hZ (hw _ (List.mem_of_getElem? (i := 44) rfl))) (mvT hZ (hw _ (List.mem_of_getElem? (i := 43) rfl))) (by decide) (backOf (W := 0) (rm8_0_16 l Z a0 hw [] a1 b2 k2 y0 y1 y2 y3 y4 y5 y6 y7 y8 y9 y10 y11 y12 y13 y14 y15 h0 n0 Z0 P2 P4) hZ (hw _ (List.mem_of_getElem? (i := 45) rfl)) (hw _ (List.mem_of_getElem? (i := 3) rfl)) (by decide) (by decide)) q158a q158c (g := (mkF m 18 #[.val (.ref a1), .val (.int (0 : Int32)), .val (.int (1 : Int32)), .val (.ref a4), .val (.ref a5)] [(.int (0 : Int32)), (.ref a1)])) rfl (by rw [hml]; rfl) (Steps.refl _) (argsL := [(.int (0 : Int32))]) (rest := []) (lenOf pd_1 rfl) rfl (by show 2 * 0 + _ ≤ _; exact Nat.le_of_eq rfl) (hb hby d5_18) (fun _ _ => ⟨rfl, e155, (by decide : 0 + 0 ≤ _), (by decide : 0 + 0 ≤ _)⟩)
    dsimp only [Pt.U, Pt.locs, Pt.cells, Pt.slots] at X158 l158 y158 z158 st158 hQ158
    subst l158 y158 z158
    obtain ⟨rfl, Nq158, e158⟩ := hQ158
    have N158 := Fr.app N155 Nq158
    refine own_go (A := _) (B := T158.setTop (mkF m 21 #[.val (.ref a1), .val (.int (0 : Int32)), .val (.int (1 : Int32)), .val (.ref a4), .val (.ref a5)] [(.int y0)])) (fun t k => st158.trans k) ?_
    refine own_go (A := T158.setTop (mkF m 21 #[.val (.ref a1), .val (.int (0 : Int32)), .val (.int (1 : Int32)), .val (.ref a4), .val (.ref a5)] [(.int y0)])) (B := T158.setTop (mkF m 24 #[.val (.ref a1), .val (.int (0 : Int32)), .val (.int (1 : Int32)), .val (.ref a4), .val (.ref a5)] [(.int (0 : Int32)), (.ref a5), (.int y0)])) (fun t k => ?_) ?_
    · show Steps p.tables e below (T158.setTop (mkF m 21 #[.val (.ref a1), .val (.int (0 : Int32)), .val (.int (1 : Int32)), .val (.ref a4), .val (.ref a5)] [(.int y0)])) _
      refine XS.aload X158.here hx rfl (hb hby d5_21) rfl rfl ?_
      show Steps p.tables e below (T158.setTop (mkF m 23 #[.val (.ref a1), .val (.int (0 : Int32)), .val (.int (1 : Int32)), .val (.ref a4), .val (.ref a5)] [(.ref a5), (.int y0)])) _
      refine XS.iloadN X158.here hx rfl (hb hby d5_23) rfl ?_
      exact k
    obtain ⟨cl159, Ar159, q159, S159, M159, Ha159, G159⟩ := id P6
    have hin159 : ¬ ((0 : Int32) < 0 ∨ cl159.slots.size ≤ ((0 : Int32)).toNatClampNeg) := inb_of S159 ⟨by decide, by decide⟩
    refine own_go (A := T158.setTop (mkF m 24 #[.val (.ref a1), .val (.int (0 : Int32)), .val (.int (1 : Int32)), .val (.ref a4), .val (.ref a5)] [(.int (0 : Int32)), (.ref a5), (.int y0)])) (X158.iaload hx (j := (0 : Int32)) (v := (.int m0)) (by rw [e158]; exact Ar159.1) (State.isArrayOf_alike hZ.alike Ar159.2.1) Ar159.2.2 hin159 (Has.at Ha159 hin159 rfl) (g := (mkF m 24 #[.val (.ref a1), .val (.int (0 : Int32)), .val (.int (1 : Int32)), .val (.ref a4), .val (.ref a5)] [(.int (0 : Int32)), (.ref a5), (.int y0)])) rfl rfl (hb hby d5_24)) ?_
    by_cases hc25_160 : y0 = m0
    · refine own_go (A := T158.setTop (mkF m 25 #[.val (.ref a1), .val (.int (0 : Int32)), .val (.int (1 : Int32)), .val (.ref a4), .val (.ref a5)] [(.int m0), (.int y0)])) (B := T158.setTop (mkF m 28 #[.val (.ref a1), .val (.int (0 : Int32)), .val (.int (1 : Int32)), .val (.ref a4), .val (.ref a5)] [])) (fun t k => ?_) ?_
      · show Steps p.tables e below (T158.setTop (mkF m 25 #[.val (.ref a1), .val (.int (0 : Int32)), .val (.int (1 : Int32)), .val (.ref a4), .val (.ref a5)] [(.int m0), (.int y0)])) _
        refine XS.icmpNo X158.here hx rfl (hb hby d5_25) rfl (teq hc25_160).2 ?_
        exact k
      refine own_go (A := T158.setTop (mkF m 28 #[.val (.ref a1), .val (.int (0 : Int32)), .val (.int (1 : Int32)), .val (.ref a4), .val (.ref a5)] [])) (B := T158.setTop (mkF m 33 #[.val (.ref a1), .val (.int (0 : Int32)), .val (.int (1 : Int32)), .val (.ref a4), .val (.ref a5)] [(.int (1 : Int32))])) (fun t k => ?_) ?_
      · show Steps p.tables e below (T158.setTop (mkF m 28 #[.val (.ref a1), .val (.int (0 : Int32)), .val (.int (1 : Int32)), .val (.ref a4), .val (.ref a5)] [])) _
        refine XS.iconst X158.here hx rfl (hb hby d5_28) ?_
        show Steps p.tables e below (T158.setTop (mkF m 29 #[.val (.ref a1), .val (.int (0 : Int32)), .val (.int (1 : Int32)), .val (.ref a4), .val (.ref a5)] [(.int (1 : Int32))])) _
        refine XS.goto X158.here hx rfl (pc0 := 29) (pc' := 33) rfl (hb hby d5_29) (by decide) (by decide) ?_
        exact k
      obtain ⟨fs, hr, hrun, hended, hW, hsame⟩ := X158.leave (v := some (.int (1 : Int32))) (fun h => by rw [Bd.returns] at h; cases h)
      refine ⟨_, _, ?_, hrun, hended, _, _, rfl, ?_, ⟨_, rfl⟩, hW, hsame.mono (by decide) (by decide)⟩
      · show Steps p.tables e below (T158.setTop (mkF m 33 #[.val (.ref a1), .val (.int (0 : Int32)), .val (.int (1 : Int32)), .val (.ref a4), .val (.ref a5)] [(.int (1 : Int32))])) _
        exact retN X158 hx (t := .boolean) Bd.returns (by simp) (hb hby d5_33) hr
      · show Qrm5_0_1 Z a1 a4 a5 b1 b2 k1 k2 k3 k4 x0 x1 x2 x3 x4 x5 x6 x7 x8 x9 x10 x11 x12 x13 x14 x15 y0 y1 y2 y3 y4 y5 y6 y7 y8 y9 y10 y11 y12 y13 y14 y15 l0 l1 l2 m0 m1 m2 h0 n0 _ T158.heap _
        rw [e158]
        exact ⟨(by simp only [frm5_0_1, if_pos hc13_157, if_pos hc25_160]), N158, rfl⟩
    · refine own_go (A := T158.setTop (mkF m 25 #[.val (.ref a1), .val (.int (0 : Int32)), .val (.int (1 : Int32)), .val (.ref a4), .val (.ref a5)] [(.int m0), (.int y0)])) (B := T158.setTop (mkF m 32 #[.val (.ref a1), .val (.int (0 : Int32)), .val (.int (1 : Int32)), .val (.ref a4), .val (.ref a5)] [])) (fun t k => ?_) ?_
      · show Steps p.tables e below (T158.setTop (mkF m 25 #[.val (.ref a1), .val (.int (0 : Int32)), .val (.int (1 : Int32)), .val (.ref a4), .val (.ref a5)] [(.int m0), (.int y0)])) _
        refine XS.icmpYes X158.here hx rfl (pc0 := 25) (pc' := 32) rfl (hb hby d5_25) rfl (feq hc25_160).2 (by decide) (by decide) ?_
        exact k
      refine own_go (A := T158.setTop (mkF m 32 #[.val (.ref a1), .val (.int (0 : Int32)), .val (.int (1 : Int32)), .val (.ref a4), .val (.ref a5)] [])) (B := T158.setTop (mkF m 33 #[.val (.ref a1), .val (.int (0 : Int32)), .val (.int (1 : Int32)), .val (.ref a4), .val (.ref a5)] [(.int (0 : Int32))])) (fun t k => ?_) ?_
      · show Steps p.tables e below (T158.setTop (mkF m 32 #[.val (.ref a1), .val (.int (0 : Int32)), .val (.int (1 : Int32)), .val (.ref a4), .val (.ref a5)] [])) _
        refine XS.iconst X158.here hx rfl (hb hby d5_32) ?_
        exact k
      obtain ⟨fs, hr, hrun, hended, hW, hsame⟩ := X158.leave (v := some (.int (0 : Int32))) (fun h => by rw [Bd.returns] at h; cases h)
      refine ⟨_, _, ?_, hrun, hended, _, _, rfl, ?_, ⟨_, rfl⟩, hW, hsame.mono (by decide) (by decide)⟩
      · show Steps p.tables e below (T158.setTop (mkF m 33 #[.val (.ref a1), .val (.int (0 : Int32)), .val (.int (1 : Int32)), .val (.ref a4), .val (.ref a5)] [(.int (0 : Int32))])) _
        exact retN X158 hx (t := .boolean) Bd.returns (by simp) (hb hby d5_33) hr
      · show Qrm5_0_1 Z a1 a4 a5 b1 b2 k1 k2 k3 k4 x0 x1 x2 x3 x4 x5 x6 x7 x8 x9 x10 x11 x12 x13 x14 x15 y0 y1 y2 y3 y4 y5 y6 y7 y8 y9 y10 y11 y12 y13 y14 y15 l0 l1 l2 m0 m1 m2 h0 n0 _ T158.heap _
        rw [e158]
        exact ⟨(by simp only [frm5_0_1, if_pos hc13_157, if_neg hc25_160]), N158, rfl⟩
  · refine own_go (A := T155.setTop (mkF m 13 #[.val (.ref a1), .val (.int (0 : Int32)), .val (.int (1 : Int32)), .val (.ref a4), .val (.ref a5)] [(.int l0), (.int x0)])) (B := T155.setTop (mkF m 32 #[.val (.ref a1), .val (.int (0 : Int32)), .val (.int (1 : Int32)), .val (.ref a4), .val (.ref a5)] [])) (fun t k => ?_) ?_
    · show Steps p.tables e below (T155.setTop (mkF m 13 #[.val (.ref a1), .val (.int (0 : Int32)), .val (.int (1 : Int32)), .val (.ref a4), .val (.ref a5)] [(.int l0), (.int x0)])) _
      refine XS.icmpYes X155.here hx rfl (pc0 := 13) (pc' := 32) rfl (hb hby d5_13) rfl (feq hc13_157).2 (by decide) (by decide) ?_
      exact k
    refine own_go (A := T155.setTop (mkF m 32 #[.val (.ref a1), .val (.int (0 : Int32)), .val (.int (1 : Int32)), .val (.ref a4), .val (.ref a5)] [])) (B := T155.setTop (mkF m 33 #[.val (.ref a1), .val (.int (0 : Int32)), .val (.int (1 : Int32)), .val (.ref a4), .val (.ref a5)] [(.int (0 : Int32))])) (fun t k => ?_) ?_
    · show Steps p.tables e below (T155.setTop (mkF m 32 #[.val (.ref a1), .val (.int (0 : Int32)), .val (.int (1 : Int32)), .val (.ref a4), .val (.ref a5)] [])) _
      refine XS.iconst X155.here hx rfl (hb hby d5_32) ?_
      exact k
    obtain ⟨fs, hr, hrun, hended, hW, hsame⟩ := X155.leave (v := some (.int (0 : Int32))) (fun h => by rw [Bd.returns] at h; cases h)
    refine ⟨_, _, ?_, hrun, hended, _, _, rfl, ?_, ⟨_, rfl⟩, hW, hsame.mono (by decide) (by decide)⟩
    · show Steps p.tables e below (T155.setTop (mkF m 33 #[.val (.ref a1), .val (.int (0 : Int32)), .val (.int (1 : Int32)), .val (.ref a4), .val (.ref a5)] [(.int (0 : Int32))])) _
      exact retN X155 hx (t := .boolean) Bd.returns (by simp) (hb hby d5_33) hr
    · show Qrm5_0_1 Z a1 a4 a5 b1 b2 k1 k2 k3 k4 x0 x1 x2 x3 x4 x5 x6 x7 x8 x9 x10 x11 x12 x13 x14 x15 y0 y1 y2 y3 y4 y5 y6 y7 y8 y9 y10 y11 y12 y13 y14 y15 l0 l1 l2 m0 m1 m2 h0 n0 _ T155.heap _
      rw [e155]
      exact ⟨(by simp only [frm5_0_1, if_neg hc13_157]), N155, rfl⟩
def frm5_0_2 (x0 : Int32) (y0 : Int32) (l0 : Int32) (m0 : Int32) : Int32 := (if x0 = l0 then (if y0 = m0 then (1 : Int32) else (0 : Int32)) else (0 : Int32))
def Qrm5_0_2 (Z : State) (a1 : Addr) (a4 : Addr) (a5 : Addr) (b1 : Addr) (b2 : Addr) (k1 : ClassId) (k2 : ClassId) (k3 : ClassId) (k4 : ClassId) (x0 : Int32) (x1 : Int32) (x2 : Int32) (x3 : Int32) (x4 : Int32) (x5 : Int32) (x6 : Int32) (x7 : Int32) (x8 : Int32) (x9 : Int32) (x10 : Int32) (x11 : Int32) (x12 : Int32) (x13 : Int32) (x14 : Int32) (x15 : Int32) (y0 : Int32) (y1 : Int32) (y2 : Int32) (y3 : Int32) (y4 : Int32) (y5 : Int32) (y6 : Int32) (y7 : Int32) (y8 : Int32) (y9 : Int32) (y10 : Int32) (y11 : Int32) (y12 : Int32) (y13 : Int32) (y14 : Int32) (y15 : Int32) (l0 : Int32) (l1 : Int32) (l2 : Int32) (m0 : Int32) (m1 : Int32) (m2 : Int32) (h0 : Heap) (n0 : Nat) (v : Option Value) (h : Heap) (L : List Loc) : Prop := v = some (.int (frm5_0_2 x0 y0 l0 m0)) ∧ Fr n0 L ∧ h = h0
theorem efrm5_0_2 (m : MethodId) (x0 : Addr) (x3 : Addr) (x4 : Addr) : entryFrame m #[(.ref x0), (.int (0 : Int32)), (.int (2 : Int32)), (.ref x3), (.ref x4)] 5 = mkF m 0 #[.val (.ref x0), .val (.int (0 : Int32)), .val (.int (2 : Int32)), .val (.ref x3), .val (.ref x4)] [] := by first | (simp [entryFrame, mkF, argsToLocals, Value.category]; done) | rfl
set_option maxRecDepth 65536 in
set_option maxHeartbeats 40000000 in
theorem rm5_0_2 (l : Launch) (Z : State) (a0 : Array Value) (hw : ∀ d ∈ tables_1, d.before a0 Z = true) (ws : List Jvm.Cond) (a1 : Addr) (a4 : Addr) (a5 : Addr) (b1 : Addr) (b2 : Addr) (k1 : ClassId) (k2 : ClassId) (k3 : ClassId) (k4 : ClassId) (x0 : Int32) (x1 : Int32) (x2 : Int32) (x3 : Int32) (x4 : Int32) (x5 : Int32) (x6 : Int32) (x7 : Int32) (x8 : Int32) (x9 : Int32) (x10 : Int32) (x11 : Int32) (x12 : Int32) (x13 : Int32) (x14 : Int32) (x15 : Int32) (y0 : Int32) (y1 : Int32) (y2 : Int32) (y3 : Int32) (y4 : Int32) (y5 : Int32) (y6 : Int32) (y7 : Int32) (y8 : Int32) (y9 : Int32) (y10 : Int32) (y11 : Int32) (y12 : Int32) (y13 : Int32) (y14 : Int32) (y15 : Int32) (l0 : Int32) (l1 : Int32) (l2 : Int32) (m0 : Int32) (m1 : Int32) (m2 : Int32) (h0 : Heap) (n0 : Nat) (Z0 : n0 ≤ h0.size) (P0 : Exa Z h0 a1 "com/example/axiomwright/axiomwright/Arcs") (P1 : Fld Z h0 a1 "com/example/axiomwright/axiomwright/Arcs" "from" "[I" (.ref b1)) (P2 : Fld Z h0 a1 "com/example/axiomwright/axiomwright/Arcs" "to" "[I" (.ref b2)) (P3 : Arv Z h0 b1 k1 .int (16 : Int32) [(.int x0), (.int x1), (.int x2), (.int x3), (.int x4), (.int x5), (.int x6), (.int x7), (.int x8), (.int x9), (.int x10), (.int x11), (.int x12), (.int x13), (.int x14), (.int x15)] (.int (0 : Int32))) (P4 : Arv Z h0 b2 k2 .int (16 : Int32) [(.int y0), (.int y1), (.int y2), (.int y3), (.int y4), (.int y5), (.int y6), (.int y7), (.int y8), (.int y9), (.int y10), (.int y11), (.int y12), (.int y13), (.int y14), (.int y15)] (.int (0 : Int32))) (P5 : Arv Z h0 a4 k3 .int (3 : Int32) [(.int l0), (.int l1), (.int l2)] (.int (0 : Int32))) (P6 : Arv Z h0 a5 k4 .int (3 : Int32) [(.int m0), (.int m1), (.int m2)] (.int (0 : Int32))) :
    MetFree l (⟨"com/example/axiomwright/axiomwright/ArcsAddAllPinLaw", "at", "(Lcom/example/axiomwright/axiomwright/Arcs;II[I[I)Z"⟩ : MethodName) (head1 (Jvm.Cond.code (⟨"com/example/axiomwright/axiomwright/ArcsAddAllPinLaw", "at", "(Lcom/example/axiomwright/axiomwright/Arcs;II[I[I)Z"⟩ : MethodName) method_2_code 5 (some .boolean) :: ws) ({ frames := 1, cells := 0, slots := 0, locals := 13 } : Room)) (fun a U => a = #[(.ref a1), (.int (0 : Int32)), (.int (2 : Int32)), (.ref a4), (.ref a5)] ∧ Z.Warmed39 U.vm ∧ U.heap = h0) (fun _ _ _ _ _ => True) (fun _ U o U' => ∃ v L, o = .returned v ∧ Qrm5_0_2 Z a1 a4 a5 b1 b2 k1 k2 k3 k4 x0 x1 x2 x3 x4 x5 x6 x7 x8 x9 x10 x11 x12 x13 x14 x15 y0 y1 y2 y3 y4 y5 y6 y7 y8 y9 y10 y11 y12 y13 y14 y15 l0 l1 l2 m0 m1 m2 h0 n0 v U'.heap L ∧ FrameEnd U o U' L ({ frames := 1, cells := 0, slots := 0, locals := 13 } : Room).cells ({ frames := 1, cells := 0, slots := 0, locals := 13 } : Room).slots) := by
  refine MetFree.of_bodySF (plainFor_of_name pn_1) hisR ?_
  intro p e s m args below meth c s₁ Bd hml0 hP hK
  obtain ⟨rfl, hZ, hh⟩ := hP
  have hx := Bd.exec
  have hby := Bd.bytes
  have hml : c.maxLocals = 5 := hml0
  have hown : s.vm.findClass "com/example/axiomwright/axiomwright/ArcsAddAllPinLaw" = some m.cls := findClass_of_methodNamed Bd.named
  have hnm := (name_of_methodNamed Bd.named Bd.method).1
  have X0 : Stand p l e ({ frames := 1, cells := 0, slots := 0, locals := 13 } : Room) s m #[(.ref a1), (.int (0 : Int32)), (.int (2 : Int32)), (.ref a4), (.ref a5)] below meth c s₁ [] 0 0 := Stand.of_body Bd
  have e0 : s₁.heap = h0 := by rw [← hh, Bd.state]; rfl
  have N0 := Fr.nil n0
  have K0 : Keep h0 h0 [] := Keep.refl h0 _
  refine own_go (B := s₁.setTop (mkF m 0 #[.val (.ref a1), .val (.int (0 : Int32)), .val (.int (2 : Int32)), .val (.ref a4), .val (.ref a5)] [])) (fun t k => castTop (efrm5_0_2 m a1 a4 a5) k) ?_
  refine own_go (A := s₁.setTop (mkF m 0 #[.val (.ref a1), .val (.int (0 : Int32)), .val (.int (2 : Int32)), .val (.ref a4), .val (.ref a5)] [])) (B := s₁.setTop (mkF m 7 #[.val (.ref a1), .val (.int (0 : Int32)), .val (.int (2 : Int32)), .val (.ref a4), .val (.ref a5)] [(.int (0 : Int32)), (.ref a1)])) (fun t k => ?_) ?_
  · show Steps p.tables e below (s₁.setTop (mkF m 0 #[.val (.ref a1), .val (.int (0 : Int32)), .val (.int (2 : Int32)), .val (.ref a4), .val (.ref a5)] [])) _
    refine XS.iloadN X0.here hx rfl (hb hby d5_0) rfl ?_
    show Steps p.tables e below (s₁.setTop (mkF m 1 #[.val (.ref a1), .val (.int (0 : Int32)), .val (.int (2 : Int32)), .val (.ref a4), .val (.ref a5)] [(.int (0 : Int32))])) _
    refine XS.iloadN X0.here hx rfl (hb hby d5_1) rfl ?_
    show Steps p.tables e below (s₁.setTop (mkF m 2 #[.val (.ref a1), .val (.int (0 : Int32)), .val (.int (2 : Int32)), .val (.ref a4), .val (.ref a5)] [(.int (2 : Int32)), (.int (0 : Int32))])) _
    refine XS.icmpNo X0.here hx rfl (hb hby d5_2) rfl (tlt (by decide : ((0 : Int32) < (2 : Int32)))).2.1 ?_
    show Steps p.tables e below (s₁.setTop (mkF m 5 #[.val (.ref a1), .val (.int (0 : Int32)), .val (.int (2 : Int32)), .val (.ref a4), .val (.ref a5)] [])) _
    refine XS.aloadN X0.here hx rfl (hb hby d5_5) rfl rfl ?_
    show Steps p.tables e below (s₁.setTop (mkF m 6 #[.val (.ref a1), .val (.int (0 : Int32)), .val (.int (2 : Int32)), .val (.ref a4), .val (.ref a5)] [(.ref a1)])) _
    refine XS.iloadN X0.here hx rfl (hb hby d5_6) rfl ?_
    exact k
  obtain ⟨cq162, kq162, q162a, q162b, q162c⟩ := isOf hZ e0 P0
  obtain ⟨_, _, ⟨T162, L162, k162, n162⟩, -, X162, ⟨Lc162, hQ162, l162, y162, z162⟩, st162⟩ := X0.virtualBack hx (y := (⟨"com/example/axiomwright/axiomwright/Arcs", "tail", "(I)I"⟩ : MethodName)) (z := (⟨"com/example/axiomwright/axiomwright/Arcs", "tail", "(I)I"⟩ : MethodName)) hown (mvT hZ (hw _ (List.mem_of_getElem? (i := 36) rfl))) (mvT hZ (hw _ (List.mem_of_getElem? (i := 37) rfl))) (notFace_of_selects (args := #[]) (mvT hZ (hw _ (List.mem_of_getElem? (i := 39) rfl)))) (mvT hZ (hw _ (List.mem_of_getElem? (i := 39) rfl))) (mvT hZ (hw _ (List.mem_of_getElem? (i := 38) rfl))) (by decide) (backOf (W := 0) (rm7_0_16 l Z a0 hw [] a1 b1 k1 x0 x1 x2 x3 x4 x5 x6 x7 x8 x9 x10 x11 x12 x13 x14 x15 h0 n0 Z0 P1 P3) hZ (hw _ (List.mem_of_getElem? (i := 40) rfl)) (hw _ (List.mem_of_getElem? (i := 3) rfl)) (by decide) (by decide)) q162a q162c (g := (mkF m 7 #[.val (.ref a1), .val (.int (0 : Int32)), .val (.int (2 : Int32)), .val (.ref a4), .val (.ref a5)] [(.int (0 : Int32)), (.ref a1)])) rfl (by rw [hml]; rfl) (Steps.refl _) (argsL := [(.int (0 : Int32))]) (rest := []) (lenOf pd_1 rfl) rfl (by show 2 * 0 + _ ≤ _; exact Nat.le_of_eq rfl) (hb hby d5_7) (fun _ _ => ⟨rfl, e0, (by decide : 0 + 0 ≤ _), (by decide : 0 + 0 ≤ _)⟩)
  dsimp only [Pt.U, Pt.locs, Pt.cells, Pt.slots] at X162 l162 y162 z162 st162 hQ162
  subst l162 y162 z162
  obtain ⟨rfl, Nq162, e162⟩ := hQ162
  have N162 := Fr.app N0 Nq162
  refine own_go (A := _) (B := T162.setTop (mkF m 10 #[.val (.ref a1), .val (.int (0 : Int32)), .val (.int (2 : Int32)), .val (.ref a4), .val (.ref a5)] [(.int x0)])) (fun t k => st162.trans k) ?_
  refine own_go (A := T162.setTop (mkF m 10 #[.val (.ref a1), .val (.int (0 : Int32)), .val (.int (2 : Int32)), .val (.ref a4), .val (.ref a5)] [(.int x0)])) (B := T162.setTop (mkF m 12 #[.val (.ref a1), .val (.int (0 : Int32)), .val (.int (2 : Int32)), .val (.ref a4), .val (.ref a5)] [(.int (0 : Int32)), (.ref a4), (.int x0)])) (fun t k => ?_) ?_
  · show Steps p.tables e below (T162.setTop (mkF m 10 #[.val (.ref a1), .val (.int (0 : Int32)), .val (.int (2 : Int32)), .val (.ref a4), .val (.ref a5)] [(.int x0)])) _
    refine XS.aloadN X162.here hx rfl (hb hby d5_10) rfl rfl ?_
    show Steps p.tables e below (T162.setTop (mkF m 11 #[.val (.ref a1), .val (.int (0 : Int32)), .val (.int (2 : Int32)), .val (.ref a4), .val (.ref a5)] [(.ref a4), (.int x0)])) _
    refine XS.iloadN X162.here hx rfl (hb hby d5_11) rfl ?_
    exact k
  obtain ⟨cl163, Ar163, q163, S163, M163, Ha163, G163⟩ := id P5
  have hin163 : ¬ ((0 : Int32) < 0 ∨ cl163.slots.size ≤ ((0 : Int32)).toNatClampNeg) := inb_of S163 ⟨by decide, by decide⟩
  refine own_go (A := T162.setTop (mkF m 12 #[.val (.ref a1), .val (.int (0 : Int32)), .val (.int (2 : Int32)), .val (.ref a4), .val (.ref a5)] [(.int (0 : Int32)), (.ref a4), (.int x0)])) (X162.iaload hx (j := (0 : Int32)) (v := (.int l0)) (by rw [e162]; exact Ar163.1) (State.isArrayOf_alike hZ.alike Ar163.2.1) Ar163.2.2 hin163 (Has.at Ha163 hin163 rfl) (g := (mkF m 12 #[.val (.ref a1), .val (.int (0 : Int32)), .val (.int (2 : Int32)), .val (.ref a4), .val (.ref a5)] [(.int (0 : Int32)), (.ref a4), (.int x0)])) rfl rfl (hb hby d5_12)) ?_
  by_cases hc13_164 : x0 = l0
  · refine own_go (A := T162.setTop (mkF m 13 #[.val (.ref a1), .val (.int (0 : Int32)), .val (.int (2 : Int32)), .val (.ref a4), .val (.ref a5)] [(.int l0), (.int x0)])) (B := T162.setTop (mkF m 16 #[.val (.ref a1), .val (.int (0 : Int32)), .val (.int (2 : Int32)), .val (.ref a4), .val (.ref a5)] [])) (fun t k => ?_) ?_
    · show Steps p.tables e below (T162.setTop (mkF m 13 #[.val (.ref a1), .val (.int (0 : Int32)), .val (.int (2 : Int32)), .val (.ref a4), .val (.ref a5)] [(.int l0), (.int x0)])) _
      refine XS.icmpNo X162.here hx rfl (hb hby d5_13) rfl (teq hc13_164).2 ?_
      exact k
    refine own_go (A := T162.setTop (mkF m 16 #[.val (.ref a1), .val (.int (0 : Int32)), .val (.int (2 : Int32)), .val (.ref a4), .val (.ref a5)] [])) (B := T162.setTop (mkF m 18 #[.val (.ref a1), .val (.int (0 : Int32)), .val (.int (2 : Int32)), .val (.ref a4), .val (.ref a5)] [(.int (0 : Int32)), (.ref a1)])) (fun t k => ?_) ?_
    · show Steps p.tables e below (T162.setTop (mkF m 16 #[.val (.ref a1), .val (.int (0 : Int32)), .val (.int (2 : Int32)), .val (.ref a4), .val (.ref a5)] [])) _
      refine XS.aloadN X162.here hx rfl (hb hby d5_16) rfl rfl ?_
      show Steps p.tables e below (T162.setTop (mkF m 17 #[.val (.ref a1), .val (.int (0 : Int32)), .val (.int (2 : Int32)), .val (.ref a4), .val (.ref a5)] [(.ref a1)])) _
      refine XS.iloadN X162.here hx rfl (hb hby d5_17) rfl ?_
      exact k
    obtain ⟨cq165, kq165, q165a, q165b, q165c⟩ := isOf hZ e162 P0
    obtain ⟨_, _, ⟨T165, L165, k165, n165⟩, -, X165, ⟨Lc165, hQ165, l165, y165, z165⟩, st165⟩ := X162.virtualBack hx (y := (⟨"com/example/axiomwright/axiomwright/Arcs", "head", "(I)I"⟩ : MethodName)) (z := (⟨"com/example/axiomwright/axiomwright/Arcs", "head", "(I)I"⟩ : MethodName)) hown (mvT hZ (hw _ (List.mem_of_getElem? (i := 41) rfl))) (mvT hZ (hw _ (List.mem_of_getElem? (i := 42) rfl))) (notFace_of_selects (args := #[]) (mvT hZ (hw _ (List.mem_of_getElem? (i := 44) rfl)))) (mvT hZ (hw _ (List.mem_of_getElem? (i := 44) rfl))) (mvT hZ (hw _ (List.mem_of_getElem? (i := 43) rfl))) (by decide) (backOf (W := 0) (rm8_0_16 l Z a0 hw [] a1 b2 k2 y0 y1 y2 y3 y4 y5 y6 y7 y8 y9 y10 y11 y12 y13 y14 y15 h0 n0 Z0 P2 P4) hZ (hw _ (List.mem_of_getElem? (i := 45) rfl)) (hw _ (List.mem_of_getElem? (i := 3) rfl)) (by decide) (by decide)) q165a q165c (g := (mkF m 18 #[.val (.ref a1), .val (.int (0 : Int32)), .val (.int (2 : Int32)), .val (.ref a4), .val (.ref a5)] [(.int (0 : Int32)), (.ref a1)])) rfl (by rw [hml]; rfl) (Steps.refl _) (argsL := [(.int (0 : Int32))]) (rest := []) (lenOf pd_1 rfl) rfl (by show 2 * 0 + _ ≤ _; exact Nat.le_of_eq rfl) (hb hby d5_18) (fun _ _ => ⟨rfl, e162, (by decide : 0 + 0 ≤ _), (by decide : 0 + 0 ≤ _)⟩)
    dsimp only [Pt.U, Pt.locs, Pt.cells, Pt.slots] at X165 l165 y165 z165 st165 hQ165
    subst l165 y165 z165
    obtain ⟨rfl, Nq165, e165⟩ := hQ165
    have N165 := Fr.app N162 Nq165
    refine own_go (A := _) (B := T165.setTop (mkF m 21 #[.val (.ref a1), .val (.int (0 : Int32)), .val (.int (2 : Int32)), .val (.ref a4), .val (.ref a5)] [(.int y0)])) (fun t k => st165.trans k) ?_
    refine own_go (A := T165.setTop (mkF m 21 #[.val (.ref a1), .val (.int (0 : Int32)), .val (.int (2 : Int32)), .val (.ref a4), .val (.ref a5)] [(.int y0)])) (B := T165.setTop (mkF m 24 #[.val (.ref a1), .val (.int (0 : Int32)), .val (.int (2 : Int32)), .val (.ref a4), .val (.ref a5)] [(.int (0 : Int32)), (.ref a5), (.int y0)])) (fun t k => ?_) ?_
    · show Steps p.tables e below (T165.setTop (mkF m 21 #[.val (.ref a1), .val (.int (0 : Int32)), .val (.int (2 : Int32)), .val (.ref a4), .val (.ref a5)] [(.int y0)])) _
      refine XS.aload X165.here hx rfl (hb hby d5_21) rfl rfl ?_
      show Steps p.tables e below (T165.setTop (mkF m 23 #[.val (.ref a1), .val (.int (0 : Int32)), .val (.int (2 : Int32)), .val (.ref a4), .val (.ref a5)] [(.ref a5), (.int y0)])) _
      refine XS.iloadN X165.here hx rfl (hb hby d5_23) rfl ?_
      exact k
    obtain ⟨cl166, Ar166, q166, S166, M166, Ha166, G166⟩ := id P6
    have hin166 : ¬ ((0 : Int32) < 0 ∨ cl166.slots.size ≤ ((0 : Int32)).toNatClampNeg) := inb_of S166 ⟨by decide, by decide⟩
    refine own_go (A := T165.setTop (mkF m 24 #[.val (.ref a1), .val (.int (0 : Int32)), .val (.int (2 : Int32)), .val (.ref a4), .val (.ref a5)] [(.int (0 : Int32)), (.ref a5), (.int y0)])) (X165.iaload hx (j := (0 : Int32)) (v := (.int m0)) (by rw [e165]; exact Ar166.1) (State.isArrayOf_alike hZ.alike Ar166.2.1) Ar166.2.2 hin166 (Has.at Ha166 hin166 rfl) (g := (mkF m 24 #[.val (.ref a1), .val (.int (0 : Int32)), .val (.int (2 : Int32)), .val (.ref a4), .val (.ref a5)] [(.int (0 : Int32)), (.ref a5), (.int y0)])) rfl rfl (hb hby d5_24)) ?_
    by_cases hc25_167 : y0 = m0
    · refine own_go (A := T165.setTop (mkF m 25 #[.val (.ref a1), .val (.int (0 : Int32)), .val (.int (2 : Int32)), .val (.ref a4), .val (.ref a5)] [(.int m0), (.int y0)])) (B := T165.setTop (mkF m 28 #[.val (.ref a1), .val (.int (0 : Int32)), .val (.int (2 : Int32)), .val (.ref a4), .val (.ref a5)] [])) (fun t k => ?_) ?_
      · show Steps p.tables e below (T165.setTop (mkF m 25 #[.val (.ref a1), .val (.int (0 : Int32)), .val (.int (2 : Int32)), .val (.ref a4), .val (.ref a5)] [(.int m0), (.int y0)])) _
        refine XS.icmpNo X165.here hx rfl (hb hby d5_25) rfl (teq hc25_167).2 ?_
        exact k
      refine own_go (A := T165.setTop (mkF m 28 #[.val (.ref a1), .val (.int (0 : Int32)), .val (.int (2 : Int32)), .val (.ref a4), .val (.ref a5)] [])) (B := T165.setTop (mkF m 33 #[.val (.ref a1), .val (.int (0 : Int32)), .val (.int (2 : Int32)), .val (.ref a4), .val (.ref a5)] [(.int (1 : Int32))])) (fun t k => ?_) ?_
      · show Steps p.tables e below (T165.setTop (mkF m 28 #[.val (.ref a1), .val (.int (0 : Int32)), .val (.int (2 : Int32)), .val (.ref a4), .val (.ref a5)] [])) _
        refine XS.iconst X165.here hx rfl (hb hby d5_28) ?_
        show Steps p.tables e below (T165.setTop (mkF m 29 #[.val (.ref a1), .val (.int (0 : Int32)), .val (.int (2 : Int32)), .val (.ref a4), .val (.ref a5)] [(.int (1 : Int32))])) _
        refine XS.goto X165.here hx rfl (pc0 := 29) (pc' := 33) rfl (hb hby d5_29) (by decide) (by decide) ?_
        exact k
      obtain ⟨fs, hr, hrun, hended, hW, hsame⟩ := X165.leave (v := some (.int (1 : Int32))) (fun h => by rw [Bd.returns] at h; cases h)
      refine ⟨_, _, ?_, hrun, hended, _, _, rfl, ?_, ⟨_, rfl⟩, hW, hsame.mono (by decide) (by decide)⟩
      · show Steps p.tables e below (T165.setTop (mkF m 33 #[.val (.ref a1), .val (.int (0 : Int32)), .val (.int (2 : Int32)), .val (.ref a4), .val (.ref a5)] [(.int (1 : Int32))])) _
        exact retN X165 hx (t := .boolean) Bd.returns (by simp) (hb hby d5_33) hr
      · show Qrm5_0_2 Z a1 a4 a5 b1 b2 k1 k2 k3 k4 x0 x1 x2 x3 x4 x5 x6 x7 x8 x9 x10 x11 x12 x13 x14 x15 y0 y1 y2 y3 y4 y5 y6 y7 y8 y9 y10 y11 y12 y13 y14 y15 l0 l1 l2 m0 m1 m2 h0 n0 _ T165.heap _
        rw [e165]
        exact ⟨(by simp only [frm5_0_2, if_pos hc13_164, if_pos hc25_167]), N165, rfl⟩
    · refine own_go (A := T165.setTop (mkF m 25 #[.val (.ref a1), .val (.int (0 : Int32)), .val (.int (2 : Int32)), .val (.ref a4), .val (.ref a5)] [(.int m0), (.int y0)])) (B := T165.setTop (mkF m 32 #[.val (.ref a1), .val (.int (0 : Int32)), .val (.int (2 : Int32)), .val (.ref a4), .val (.ref a5)] [])) (fun t k => ?_) ?_
      · show Steps p.tables e below (T165.setTop (mkF m 25 #[.val (.ref a1), .val (.int (0 : Int32)), .val (.int (2 : Int32)), .val (.ref a4), .val (.ref a5)] [(.int m0), (.int y0)])) _
        refine XS.icmpYes X165.here hx rfl (pc0 := 25) (pc' := 32) rfl (hb hby d5_25) rfl (feq hc25_167).2 (by decide) (by decide) ?_
        exact k
      refine own_go (A := T165.setTop (mkF m 32 #[.val (.ref a1), .val (.int (0 : Int32)), .val (.int (2 : Int32)), .val (.ref a4), .val (.ref a5)] [])) (B := T165.setTop (mkF m 33 #[.val (.ref a1), .val (.int (0 : Int32)), .val (.int (2 : Int32)), .val (.ref a4), .val (.ref a5)] [(.int (0 : Int32))])) (fun t k => ?_) ?_
      · show Steps p.tables e below (T165.setTop (mkF m 32 #[.val (.ref a1), .val (.int (0 : Int32)), .val (.int (2 : Int32)), .val (.ref a4), .val (.ref a5)] [])) _
        refine XS.iconst X165.here hx rfl (hb hby d5_32) ?_
        exact k
      obtain ⟨fs, hr, hrun, hended, hW, hsame⟩ := X165.leave (v := some (.int (0 : Int32))) (fun h => by rw [Bd.returns] at h; cases h)
      refine ⟨_, _, ?_, hrun, hended, _, _, rfl, ?_, ⟨_, rfl⟩, hW, hsame.mono (by decide) (by decide)⟩
      · show Steps p.tables e below (T165.setTop (mkF m 33 #[.val (.ref a1), .val (.int (0 : Int32)), .val (.int (2 : Int32)), .val (.ref a4), .val (.ref a5)] [(.int (0 : Int32))])) _
        exact retN X165 hx (t := .boolean) Bd.returns (by simp) (hb hby d5_33) hr
      · show Qrm5_0_2 Z a1 a4 a5 b1 b2 k1 k2 k3 k4 x0 x1 x2 x3 x4 x5 x6 x7 x8 x9 x10 x11 x12 x13 x14 x15 y0 y1 y2 y3 y4 y5 y6 y7 y8 y9 y10 y11 y12 y13 y14 y15 l0 l1 l2 m0 m1 m2 h0 n0 _ T165.heap _
        rw [e165]
        exact ⟨(by simp only [frm5_0_2, if_pos hc13_164, if_neg hc25_167]), N165, rfl⟩
  · refine own_go (A := T162.setTop (mkF m 13 #[.val (.ref a1), .val (.int (0 : Int32)), .val (.int (2 : Int32)), .val (.ref a4), .val (.ref a5)] [(.int l0), (.int x0)])) (B := T162.setTop (mkF m 32 #[.val (.ref a1), .val (.int (0 : Int32)), .val (.int (2 : Int32)), .val (.ref a4), .val (.ref a5)] [])) (fun t k => ?_) ?_
    · show Steps p.tables e below (T162.setTop (mkF m 13 #[.val (.ref a1), .val (.int (0 : Int32)), .val (.int (2 : Int32)), .val (.ref a4), .val (.ref a5)] [(.int l0), (.int x0)])) _
      refine XS.icmpYes X162.here hx rfl (pc0 := 13) (pc' := 32) rfl (hb hby d5_13) rfl (feq hc13_164).2 (by decide) (by decide) ?_
      exact k
    refine own_go (A := T162.setTop (mkF m 32 #[.val (.ref a1), .val (.int (0 : Int32)), .val (.int (2 : Int32)), .val (.ref a4), .val (.ref a5)] [])) (B := T162.setTop (mkF m 33 #[.val (.ref a1), .val (.int (0 : Int32)), .val (.int (2 : Int32)), .val (.ref a4), .val (.ref a5)] [(.int (0 : Int32))])) (fun t k => ?_) ?_
    · show Steps p.tables e below (T162.setTop (mkF m 32 #[.val (.ref a1), .val (.int (0 : Int32)), .val (.int (2 : Int32)), .val (.ref a4), .val (.ref a5)] [])) _
      refine XS.iconst X162.here hx rfl (hb hby d5_32) ?_
      exact k
    obtain ⟨fs, hr, hrun, hended, hW, hsame⟩ := X162.leave (v := some (.int (0 : Int32))) (fun h => by rw [Bd.returns] at h; cases h)
    refine ⟨_, _, ?_, hrun, hended, _, _, rfl, ?_, ⟨_, rfl⟩, hW, hsame.mono (by decide) (by decide)⟩
    · show Steps p.tables e below (T162.setTop (mkF m 33 #[.val (.ref a1), .val (.int (0 : Int32)), .val (.int (2 : Int32)), .val (.ref a4), .val (.ref a5)] [(.int (0 : Int32))])) _
      exact retN X162 hx (t := .boolean) Bd.returns (by simp) (hb hby d5_33) hr
    · show Qrm5_0_2 Z a1 a4 a5 b1 b2 k1 k2 k3 k4 x0 x1 x2 x3 x4 x5 x6 x7 x8 x9 x10 x11 x12 x13 x14 x15 y0 y1 y2 y3 y4 y5 y6 y7 y8 y9 y10 y11 y12 y13 y14 y15 l0 l1 l2 m0 m1 m2 h0 n0 _ T162.heap _
      rw [e162]
      exact ⟨(by simp only [frm5_0_2, if_neg hc13_164]), N162, rfl⟩
def frm5_0_3 (x0 : Int32) (y0 : Int32) (l0 : Int32) (m0 : Int32) : Int32 := (if x0 = l0 then (if y0 = m0 then (1 : Int32) else (0 : Int32)) else (0 : Int32))
def Qrm5_0_3 (Z : State) (a1 : Addr) (a4 : Addr) (a5 : Addr) (b1 : Addr) (b2 : Addr) (k1 : ClassId) (k2 : ClassId) (k3 : ClassId) (k4 : ClassId) (x0 : Int32) (x1 : Int32) (x2 : Int32) (x3 : Int32) (x4 : Int32) (x5 : Int32) (x6 : Int32) (x7 : Int32) (x8 : Int32) (x9 : Int32) (x10 : Int32) (x11 : Int32) (x12 : Int32) (x13 : Int32) (x14 : Int32) (x15 : Int32) (y0 : Int32) (y1 : Int32) (y2 : Int32) (y3 : Int32) (y4 : Int32) (y5 : Int32) (y6 : Int32) (y7 : Int32) (y8 : Int32) (y9 : Int32) (y10 : Int32) (y11 : Int32) (y12 : Int32) (y13 : Int32) (y14 : Int32) (y15 : Int32) (l0 : Int32) (l1 : Int32) (l2 : Int32) (m0 : Int32) (m1 : Int32) (m2 : Int32) (h0 : Heap) (n0 : Nat) (v : Option Value) (h : Heap) (L : List Loc) : Prop := v = some (.int (frm5_0_3 x0 y0 l0 m0)) ∧ Fr n0 L ∧ h = h0
theorem efrm5_0_3 (m : MethodId) (x0 : Addr) (x3 : Addr) (x4 : Addr) : entryFrame m #[(.ref x0), (.int (0 : Int32)), (.int (3 : Int32)), (.ref x3), (.ref x4)] 5 = mkF m 0 #[.val (.ref x0), .val (.int (0 : Int32)), .val (.int (3 : Int32)), .val (.ref x3), .val (.ref x4)] [] := by first | (simp [entryFrame, mkF, argsToLocals, Value.category]; done) | rfl
set_option maxRecDepth 65536 in
set_option maxHeartbeats 40000000 in
theorem rm5_0_3 (l : Launch) (Z : State) (a0 : Array Value) (hw : ∀ d ∈ tables_1, d.before a0 Z = true) (ws : List Jvm.Cond) (a1 : Addr) (a4 : Addr) (a5 : Addr) (b1 : Addr) (b2 : Addr) (k1 : ClassId) (k2 : ClassId) (k3 : ClassId) (k4 : ClassId) (x0 : Int32) (x1 : Int32) (x2 : Int32) (x3 : Int32) (x4 : Int32) (x5 : Int32) (x6 : Int32) (x7 : Int32) (x8 : Int32) (x9 : Int32) (x10 : Int32) (x11 : Int32) (x12 : Int32) (x13 : Int32) (x14 : Int32) (x15 : Int32) (y0 : Int32) (y1 : Int32) (y2 : Int32) (y3 : Int32) (y4 : Int32) (y5 : Int32) (y6 : Int32) (y7 : Int32) (y8 : Int32) (y9 : Int32) (y10 : Int32) (y11 : Int32) (y12 : Int32) (y13 : Int32) (y14 : Int32) (y15 : Int32) (l0 : Int32) (l1 : Int32) (l2 : Int32) (m0 : Int32) (m1 : Int32) (m2 : Int32) (h0 : Heap) (n0 : Nat) (Z0 : n0 ≤ h0.size) (P0 : Exa Z h0 a1 "com/example/axiomwright/axiomwright/Arcs") (P1 : Fld Z h0 a1 "com/example/axiomwright/axiomwright/Arcs" "from" "[I" (.ref b1)) (P2 : Fld Z h0 a1 "com/example/axiomwright/axiomwright/Arcs" "to" "[I" (.ref b2)) (P3 : Arv Z h0 b1 k1 .int (16 : Int32) [(.int x0), (.int x1), (.int x2), (.int x3), (.int x4), (.int x5), (.int x6), (.int x7), (.int x8), (.int x9), (.int x10), (.int x11), (.int x12), (.int x13), (.int x14), (.int x15)] (.int (0 : Int32))) (P4 : Arv Z h0 b2 k2 .int (16 : Int32) [(.int y0), (.int y1), (.int y2), (.int y3), (.int y4), (.int y5), (.int y6), (.int y7), (.int y8), (.int y9), (.int y10), (.int y11), (.int y12), (.int y13), (.int y14), (.int y15)] (.int (0 : Int32))) (P5 : Arv Z h0 a4 k3 .int (3 : Int32) [(.int l0), (.int l1), (.int l2)] (.int (0 : Int32))) (P6 : Arv Z h0 a5 k4 .int (3 : Int32) [(.int m0), (.int m1), (.int m2)] (.int (0 : Int32))) :
    MetFree l (⟨"com/example/axiomwright/axiomwright/ArcsAddAllPinLaw", "at", "(Lcom/example/axiomwright/axiomwright/Arcs;II[I[I)Z"⟩ : MethodName) (head1 (Jvm.Cond.code (⟨"com/example/axiomwright/axiomwright/ArcsAddAllPinLaw", "at", "(Lcom/example/axiomwright/axiomwright/Arcs;II[I[I)Z"⟩ : MethodName) method_2_code 5 (some .boolean) :: ws) ({ frames := 1, cells := 0, slots := 0, locals := 13 } : Room)) (fun a U => a = #[(.ref a1), (.int (0 : Int32)), (.int (3 : Int32)), (.ref a4), (.ref a5)] ∧ Z.Warmed39 U.vm ∧ U.heap = h0) (fun _ _ _ _ _ => True) (fun _ U o U' => ∃ v L, o = .returned v ∧ Qrm5_0_3 Z a1 a4 a5 b1 b2 k1 k2 k3 k4 x0 x1 x2 x3 x4 x5 x6 x7 x8 x9 x10 x11 x12 x13 x14 x15 y0 y1 y2 y3 y4 y5 y6 y7 y8 y9 y10 y11 y12 y13 y14 y15 l0 l1 l2 m0 m1 m2 h0 n0 v U'.heap L ∧ FrameEnd U o U' L ({ frames := 1, cells := 0, slots := 0, locals := 13 } : Room).cells ({ frames := 1, cells := 0, slots := 0, locals := 13 } : Room).slots) := by
  refine MetFree.of_bodySF (plainFor_of_name pn_1) hisR ?_
  intro p e s m args below meth c s₁ Bd hml0 hP hK
  obtain ⟨rfl, hZ, hh⟩ := hP
  have hx := Bd.exec
  have hby := Bd.bytes
  have hml : c.maxLocals = 5 := hml0
  have hown : s.vm.findClass "com/example/axiomwright/axiomwright/ArcsAddAllPinLaw" = some m.cls := findClass_of_methodNamed Bd.named
  have hnm := (name_of_methodNamed Bd.named Bd.method).1
  have X0 : Stand p l e ({ frames := 1, cells := 0, slots := 0, locals := 13 } : Room) s m #[(.ref a1), (.int (0 : Int32)), (.int (3 : Int32)), (.ref a4), (.ref a5)] below meth c s₁ [] 0 0 := Stand.of_body Bd
  have e0 : s₁.heap = h0 := by rw [← hh, Bd.state]; rfl
  have N0 := Fr.nil n0
  have K0 : Keep h0 h0 [] := Keep.refl h0 _
  refine own_go (B := s₁.setTop (mkF m 0 #[.val (.ref a1), .val (.int (0 : Int32)), .val (.int (3 : Int32)), .val (.ref a4), .val (.ref a5)] [])) (fun t k => castTop (efrm5_0_3 m a1 a4 a5) k) ?_
  refine own_go (A := s₁.setTop (mkF m 0 #[.val (.ref a1), .val (.int (0 : Int32)), .val (.int (3 : Int32)), .val (.ref a4), .val (.ref a5)] [])) (B := s₁.setTop (mkF m 7 #[.val (.ref a1), .val (.int (0 : Int32)), .val (.int (3 : Int32)), .val (.ref a4), .val (.ref a5)] [(.int (0 : Int32)), (.ref a1)])) (fun t k => ?_) ?_
  · show Steps p.tables e below (s₁.setTop (mkF m 0 #[.val (.ref a1), .val (.int (0 : Int32)), .val (.int (3 : Int32)), .val (.ref a4), .val (.ref a5)] [])) _
    refine XS.iloadN X0.here hx rfl (hb hby d5_0) rfl ?_
    show Steps p.tables e below (s₁.setTop (mkF m 1 #[.val (.ref a1), .val (.int (0 : Int32)), .val (.int (3 : Int32)), .val (.ref a4), .val (.ref a5)] [(.int (0 : Int32))])) _
    refine XS.iloadN X0.here hx rfl (hb hby d5_1) rfl ?_
    show Steps p.tables e below (s₁.setTop (mkF m 2 #[.val (.ref a1), .val (.int (0 : Int32)), .val (.int (3 : Int32)), .val (.ref a4), .val (.ref a5)] [(.int (3 : Int32)), (.int (0 : Int32))])) _
    refine XS.icmpNo X0.here hx rfl (hb hby d5_2) rfl (tlt (by decide : ((0 : Int32) < (3 : Int32)))).2.1 ?_
    show Steps p.tables e below (s₁.setTop (mkF m 5 #[.val (.ref a1), .val (.int (0 : Int32)), .val (.int (3 : Int32)), .val (.ref a4), .val (.ref a5)] [])) _
    refine XS.aloadN X0.here hx rfl (hb hby d5_5) rfl rfl ?_
    show Steps p.tables e below (s₁.setTop (mkF m 6 #[.val (.ref a1), .val (.int (0 : Int32)), .val (.int (3 : Int32)), .val (.ref a4), .val (.ref a5)] [(.ref a1)])) _
    refine XS.iloadN X0.here hx rfl (hb hby d5_6) rfl ?_
    exact k
  obtain ⟨cq169, kq169, q169a, q169b, q169c⟩ := isOf hZ e0 P0
  obtain ⟨_, _, ⟨T169, L169, k169, n169⟩, -, X169, ⟨Lc169, hQ169, l169, y169, z169⟩, st169⟩ := X0.virtualBack hx (y := (⟨"com/example/axiomwright/axiomwright/Arcs", "tail", "(I)I"⟩ : MethodName)) (z := (⟨"com/example/axiomwright/axiomwright/Arcs", "tail", "(I)I"⟩ : MethodName)) hown (mvT hZ (hw _ (List.mem_of_getElem? (i := 36) rfl))) (mvT hZ (hw _ (List.mem_of_getElem? (i := 37) rfl))) (notFace_of_selects (args := #[]) (mvT hZ (hw _ (List.mem_of_getElem? (i := 39) rfl)))) (mvT hZ (hw _ (List.mem_of_getElem? (i := 39) rfl))) (mvT hZ (hw _ (List.mem_of_getElem? (i := 38) rfl))) (by decide) (backOf (W := 0) (rm7_0_16 l Z a0 hw [] a1 b1 k1 x0 x1 x2 x3 x4 x5 x6 x7 x8 x9 x10 x11 x12 x13 x14 x15 h0 n0 Z0 P1 P3) hZ (hw _ (List.mem_of_getElem? (i := 40) rfl)) (hw _ (List.mem_of_getElem? (i := 3) rfl)) (by decide) (by decide)) q169a q169c (g := (mkF m 7 #[.val (.ref a1), .val (.int (0 : Int32)), .val (.int (3 : Int32)), .val (.ref a4), .val (.ref a5)] [(.int (0 : Int32)), (.ref a1)])) rfl (by rw [hml]; rfl) (Steps.refl _) (argsL := [(.int (0 : Int32))]) (rest := []) (lenOf pd_1 rfl) rfl (by show 2 * 0 + _ ≤ _; exact Nat.le_of_eq rfl) (hb hby d5_7) (fun _ _ => ⟨rfl, e0, (by decide : 0 + 0 ≤ _), (by decide : 0 + 0 ≤ _)⟩)
  dsimp only [Pt.U, Pt.locs, Pt.cells, Pt.slots] at X169 l169 y169 z169 st169 hQ169
  subst l169 y169 z169
  obtain ⟨rfl, Nq169, e169⟩ := hQ169
  have N169 := Fr.app N0 Nq169
  refine own_go (A := _) (B := T169.setTop (mkF m 10 #[.val (.ref a1), .val (.int (0 : Int32)), .val (.int (3 : Int32)), .val (.ref a4), .val (.ref a5)] [(.int x0)])) (fun t k => st169.trans k) ?_
  refine own_go (A := T169.setTop (mkF m 10 #[.val (.ref a1), .val (.int (0 : Int32)), .val (.int (3 : Int32)), .val (.ref a4), .val (.ref a5)] [(.int x0)])) (B := T169.setTop (mkF m 12 #[.val (.ref a1), .val (.int (0 : Int32)), .val (.int (3 : Int32)), .val (.ref a4), .val (.ref a5)] [(.int (0 : Int32)), (.ref a4), (.int x0)])) (fun t k => ?_) ?_
  · show Steps p.tables e below (T169.setTop (mkF m 10 #[.val (.ref a1), .val (.int (0 : Int32)), .val (.int (3 : Int32)), .val (.ref a4), .val (.ref a5)] [(.int x0)])) _
    refine XS.aloadN X169.here hx rfl (hb hby d5_10) rfl rfl ?_
    show Steps p.tables e below (T169.setTop (mkF m 11 #[.val (.ref a1), .val (.int (0 : Int32)), .val (.int (3 : Int32)), .val (.ref a4), .val (.ref a5)] [(.ref a4), (.int x0)])) _
    refine XS.iloadN X169.here hx rfl (hb hby d5_11) rfl ?_
    exact k
  obtain ⟨cl170, Ar170, q170, S170, M170, Ha170, G170⟩ := id P5
  have hin170 : ¬ ((0 : Int32) < 0 ∨ cl170.slots.size ≤ ((0 : Int32)).toNatClampNeg) := inb_of S170 ⟨by decide, by decide⟩
  refine own_go (A := T169.setTop (mkF m 12 #[.val (.ref a1), .val (.int (0 : Int32)), .val (.int (3 : Int32)), .val (.ref a4), .val (.ref a5)] [(.int (0 : Int32)), (.ref a4), (.int x0)])) (X169.iaload hx (j := (0 : Int32)) (v := (.int l0)) (by rw [e169]; exact Ar170.1) (State.isArrayOf_alike hZ.alike Ar170.2.1) Ar170.2.2 hin170 (Has.at Ha170 hin170 rfl) (g := (mkF m 12 #[.val (.ref a1), .val (.int (0 : Int32)), .val (.int (3 : Int32)), .val (.ref a4), .val (.ref a5)] [(.int (0 : Int32)), (.ref a4), (.int x0)])) rfl rfl (hb hby d5_12)) ?_
  by_cases hc13_171 : x0 = l0
  · refine own_go (A := T169.setTop (mkF m 13 #[.val (.ref a1), .val (.int (0 : Int32)), .val (.int (3 : Int32)), .val (.ref a4), .val (.ref a5)] [(.int l0), (.int x0)])) (B := T169.setTop (mkF m 16 #[.val (.ref a1), .val (.int (0 : Int32)), .val (.int (3 : Int32)), .val (.ref a4), .val (.ref a5)] [])) (fun t k => ?_) ?_
    · show Steps p.tables e below (T169.setTop (mkF m 13 #[.val (.ref a1), .val (.int (0 : Int32)), .val (.int (3 : Int32)), .val (.ref a4), .val (.ref a5)] [(.int l0), (.int x0)])) _
      refine XS.icmpNo X169.here hx rfl (hb hby d5_13) rfl (teq hc13_171).2 ?_
      exact k
    refine own_go (A := T169.setTop (mkF m 16 #[.val (.ref a1), .val (.int (0 : Int32)), .val (.int (3 : Int32)), .val (.ref a4), .val (.ref a5)] [])) (B := T169.setTop (mkF m 18 #[.val (.ref a1), .val (.int (0 : Int32)), .val (.int (3 : Int32)), .val (.ref a4), .val (.ref a5)] [(.int (0 : Int32)), (.ref a1)])) (fun t k => ?_) ?_
    · show Steps p.tables e below (T169.setTop (mkF m 16 #[.val (.ref a1), .val (.int (0 : Int32)), .val (.int (3 : Int32)), .val (.ref a4), .val (.ref a5)] [])) _
      refine XS.aloadN X169.here hx rfl (hb hby d5_16) rfl rfl ?_
      show Steps p.tables e below (T169.setTop (mkF m 17 #[.val (.ref a1), .val (.int (0 : Int32)), .val (.int (3 : Int32)), .val (.ref a4), .val (.ref a5)] [(.ref a1)])) _
      refine XS.iloadN X169.here hx rfl (hb hby d5_17) rfl ?_
      exact k
    obtain ⟨cq172, kq172, q172a, q172b, q172c⟩ := isOf hZ e169 P0
    obtain ⟨_, _, ⟨T172, L172, k172, n172⟩, -, X172, ⟨Lc172, hQ172, l172, y172, z172⟩, st172⟩ := X169.virtualBack hx (y := (⟨"com/example/axiomwright/axiomwright/Arcs", "head", "(I)I"⟩ : MethodName)) (z := (⟨"com/example/axiomwright/axiomwright/Arcs", "head", "(I)I"⟩ : MethodName)) hown (mvT hZ (hw _ (List.mem_of_getElem? (i := 41) rfl))) (mvT hZ (hw _ (List.mem_of_getElem? (i := 42) rfl))) (notFace_of_selects (args := #[]) (mvT hZ (hw _ (List.mem_of_getElem? (i := 44) rfl)))) (mvT hZ (hw _ (List.mem_of_getElem? (i := 44) rfl))) (mvT hZ (hw _ (List.mem_of_getElem? (i := 43) rfl))) (by decide) (backOf (W := 0) (rm8_0_16 l Z a0 hw [] a1 b2 k2 y0 y1 y2 y3 y4 y5 y6 y7 y8 y9 y10 y11 y12 y13 y14 y15 h0 n0 Z0 P2 P4) hZ (hw _ (List.mem_of_getElem? (i := 45) rfl)) (hw _ (List.mem_of_getElem? (i := 3) rfl)) (by decide) (by decide)) q172a q172c (g := (mkF m 18 #[.val (.ref a1), .val (.int (0 : Int32)), .val (.int (3 : Int32)), .val (.ref a4), .val (.ref a5)] [(.int (0 : Int32)), (.ref a1)])) rfl (by rw [hml]; rfl) (Steps.refl _) (argsL := [(.int (0 : Int32))]) (rest := []) (lenOf pd_1 rfl) rfl (by show 2 * 0 + _ ≤ _; exact Nat.le_of_eq rfl) (hb hby d5_18) (fun _ _ => ⟨rfl, e169, (by decide : 0 + 0 ≤ _), (by decide : 0 + 0 ≤ _)⟩)
    dsimp only [Pt.U, Pt.locs, Pt.cells, Pt.slots] at X172 l172 y172 z172 st172 hQ172
    subst l172 y172 z172
    obtain ⟨rfl, Nq172, e172⟩ := hQ172
    have N172 := Fr.app N169 Nq172
    refine own_go (A := _) (B := T172.setTop (mkF m 21 #[.val (.ref a1), .val (.int (0 : Int32)), .val (.int (3 : Int32)), .val (.ref a4), .val (.ref a5)] [(.int y0)])) (fun t k => st172.trans k) ?_
    refine own_go (A := T172.setTop (mkF m 21 #[.val (.ref a1), .val (.int (0 : Int32)), .val (.int (3 : Int32)), .val (.ref a4), .val (.ref a5)] [(.int y0)])) (B := T172.setTop (mkF m 24 #[.val (.ref a1), .val (.int (0 : Int32)), .val (.int (3 : Int32)), .val (.ref a4), .val (.ref a5)] [(.int (0 : Int32)), (.ref a5), (.int y0)])) (fun t k => ?_) ?_
    · show Steps p.tables e below (T172.setTop (mkF m 21 #[.val (.ref a1), .val (.int (0 : Int32)), .val (.int (3 : Int32)), .val (.ref a4), .val (.ref a5)] [(.int y0)])) _
      refine XS.aload X172.here hx rfl (hb hby d5_21) rfl rfl ?_
      show Steps p.tables e below (T172.setTop (mkF m 23 #[.val (.ref a1), .val (.int (0 : Int32)), .val (.int (3 : Int32)), .val (.ref a4), .val (.ref a5)] [(.ref a5), (.int y0)])) _
      refine XS.iloadN X172.here hx rfl (hb hby d5_23) rfl ?_
      exact k
    obtain ⟨cl173, Ar173, q173, S173, M173, Ha173, G173⟩ := id P6
    have hin173 : ¬ ((0 : Int32) < 0 ∨ cl173.slots.size ≤ ((0 : Int32)).toNatClampNeg) := inb_of S173 ⟨by decide, by decide⟩
    refine own_go (A := T172.setTop (mkF m 24 #[.val (.ref a1), .val (.int (0 : Int32)), .val (.int (3 : Int32)), .val (.ref a4), .val (.ref a5)] [(.int (0 : Int32)), (.ref a5), (.int y0)])) (X172.iaload hx (j := (0 : Int32)) (v := (.int m0)) (by rw [e172]; exact Ar173.1) (State.isArrayOf_alike hZ.alike Ar173.2.1) Ar173.2.2 hin173 (Has.at Ha173 hin173 rfl) (g := (mkF m 24 #[.val (.ref a1), .val (.int (0 : Int32)), .val (.int (3 : Int32)), .val (.ref a4), .val (.ref a5)] [(.int (0 : Int32)), (.ref a5), (.int y0)])) rfl rfl (hb hby d5_24)) ?_
    by_cases hc25_174 : y0 = m0
    · refine own_go (A := T172.setTop (mkF m 25 #[.val (.ref a1), .val (.int (0 : Int32)), .val (.int (3 : Int32)), .val (.ref a4), .val (.ref a5)] [(.int m0), (.int y0)])) (B := T172.setTop (mkF m 28 #[.val (.ref a1), .val (.int (0 : Int32)), .val (.int (3 : Int32)), .val (.ref a4), .val (.ref a5)] [])) (fun t k => ?_) ?_
      · show Steps p.tables e below (T172.setTop (mkF m 25 #[.val (.ref a1), .val (.int (0 : Int32)), .val (.int (3 : Int32)), .val (.ref a4), .val (.ref a5)] [(.int m0), (.int y0)])) _
        refine XS.icmpNo X172.here hx rfl (hb hby d5_25) rfl (teq hc25_174).2 ?_
        exact k
      refine own_go (A := T172.setTop (mkF m 28 #[.val (.ref a1), .val (.int (0 : Int32)), .val (.int (3 : Int32)), .val (.ref a4), .val (.ref a5)] [])) (B := T172.setTop (mkF m 33 #[.val (.ref a1), .val (.int (0 : Int32)), .val (.int (3 : Int32)), .val (.ref a4), .val (.ref a5)] [(.int (1 : Int32))])) (fun t k => ?_) ?_
      · show Steps p.tables e below (T172.setTop (mkF m 28 #[.val (.ref a1), .val (.int (0 : Int32)), .val (.int (3 : Int32)), .val (.ref a4), .val (.ref a5)] [])) _
        refine XS.iconst X172.here hx rfl (hb hby d5_28) ?_
        show Steps p.tables e below (T172.setTop (mkF m 29 #[.val (.ref a1), .val (.int (0 : Int32)), .val (.int (3 : Int32)), .val (.ref a4), .val (.ref a5)] [(.int (1 : Int32))])) _
        refine XS.goto X172.here hx rfl (pc0 := 29) (pc' := 33) rfl (hb hby d5_29) (by decide) (by decide) ?_
        exact k
      obtain ⟨fs, hr, hrun, hended, hW, hsame⟩ := X172.leave (v := some (.int (1 : Int32))) (fun h => by rw [Bd.returns] at h; cases h)
      refine ⟨_, _, ?_, hrun, hended, _, _, rfl, ?_, ⟨_, rfl⟩, hW, hsame.mono (by decide) (by decide)⟩
      · show Steps p.tables e below (T172.setTop (mkF m 33 #[.val (.ref a1), .val (.int (0 : Int32)), .val (.int (3 : Int32)), .val (.ref a4), .val (.ref a5)] [(.int (1 : Int32))])) _
        exact retN X172 hx (t := .boolean) Bd.returns (by simp) (hb hby d5_33) hr
      · show Qrm5_0_3 Z a1 a4 a5 b1 b2 k1 k2 k3 k4 x0 x1 x2 x3 x4 x5 x6 x7 x8 x9 x10 x11 x12 x13 x14 x15 y0 y1 y2 y3 y4 y5 y6 y7 y8 y9 y10 y11 y12 y13 y14 y15 l0 l1 l2 m0 m1 m2 h0 n0 _ T172.heap _
        rw [e172]
        exact ⟨(by simp only [frm5_0_3, if_pos hc13_171, if_pos hc25_174]), N172, rfl⟩
    · refine own_go (A := T172.setTop (mkF m 25 #[.val (.ref a1), .val (.int (0 : Int32)), .val (.int (3 : Int32)), .val (.ref a4), .val (.ref a5)] [(.int m0), (.int y0)])) (B := T172.setTop (mkF m 32 #[.val (.ref a1), .val (.int (0 : Int32)), .val (.int (3 : Int32)), .val (.ref a4), .val (.ref a5)] [])) (fun t k => ?_) ?_
      · show Steps p.tables e below (T172.setTop (mkF m 25 #[.val (.ref a1), .val (.int (0 : Int32)), .val (.int (3 : Int32)), .val (.ref a4), .val (.ref a5)] [(.int m0), (.int y0)])) _
        refine XS.icmpYes X172.here hx rfl (pc0 := 25) (pc' := 32) rfl (hb hby d5_25) rfl (feq hc25_174).2 (by decide) (by decide) ?_
        exact k
      refine own_go (A := T172.setTop (mkF m 32 #[.val (.ref a1), .val (.int (0 : Int32)), .val (.int (3 : Int32)), .val (.ref a4), .val (.ref a5)] [])) (B := T172.setTop (mkF m 33 #[.val (.ref a1), .val (.int (0 : Int32)), .val (.int (3 : Int32)), .val (.ref a4), .val (.ref a5)] [(.int (0 : Int32))])) (fun t k => ?_) ?_
      · show Steps p.tables e below (T172.setTop (mkF m 32 #[.val (.ref a1), .val (.int (0 : Int32)), .val (.int (3 : Int32)), .val (.ref a4), .val (.ref a5)] [])) _
        refine XS.iconst X172.here hx rfl (hb hby d5_32) ?_
        exact k
      obtain ⟨fs, hr, hrun, hended, hW, hsame⟩ := X172.leave (v := some (.int (0 : Int32))) (fun h => by rw [Bd.returns] at h; cases h)
      refine ⟨_, _, ?_, hrun, hended, _, _, rfl, ?_, ⟨_, rfl⟩, hW, hsame.mono (by decide) (by decide)⟩
      · show Steps p.tables e below (T172.setTop (mkF m 33 #[.val (.ref a1), .val (.int (0 : Int32)), .val (.int (3 : Int32)), .val (.ref a4), .val (.ref a5)] [(.int (0 : Int32))])) _
        exact retN X172 hx (t := .boolean) Bd.returns (by simp) (hb hby d5_33) hr
      · show Qrm5_0_3 Z a1 a4 a5 b1 b2 k1 k2 k3 k4 x0 x1 x2 x3 x4 x5 x6 x7 x8 x9 x10 x11 x12 x13 x14 x15 y0 y1 y2 y3 y4 y5 y6 y7 y8 y9 y10 y11 y12 y13 y14 y15 l0 l1 l2 m0 m1 m2 h0 n0 _ T172.heap _
        rw [e172]
        exact ⟨(by simp only [frm5_0_3, if_pos hc13_171, if_neg hc25_174]), N172, rfl⟩
  · refine own_go (A := T169.setTop (mkF m 13 #[.val (.ref a1), .val (.int (0 : Int32)), .val (.int (3 : Int32)), .val (.ref a4), .val (.ref a5)] [(.int l0), (.int x0)])) (B := T169.setTop (mkF m 32 #[.val (.ref a1), .val (.int (0 : Int32)), .val (.int (3 : Int32)), .val (.ref a4), .val (.ref a5)] [])) (fun t k => ?_) ?_
    · show Steps p.tables e below (T169.setTop (mkF m 13 #[.val (.ref a1), .val (.int (0 : Int32)), .val (.int (3 : Int32)), .val (.ref a4), .val (.ref a5)] [(.int l0), (.int x0)])) _
      refine XS.icmpYes X169.here hx rfl (pc0 := 13) (pc' := 32) rfl (hb hby d5_13) rfl (feq hc13_171).2 (by decide) (by decide) ?_
      exact k
    refine own_go (A := T169.setTop (mkF m 32 #[.val (.ref a1), .val (.int (0 : Int32)), .val (.int (3 : Int32)), .val (.ref a4), .val (.ref a5)] [])) (B := T169.setTop (mkF m 33 #[.val (.ref a1), .val (.int (0 : Int32)), .val (.int (3 : Int32)), .val (.ref a4), .val (.ref a5)] [(.int (0 : Int32))])) (fun t k => ?_) ?_
    · show Steps p.tables e below (T169.setTop (mkF m 32 #[.val (.ref a1), .val (.int (0 : Int32)), .val (.int (3 : Int32)), .val (.ref a4), .val (.ref a5)] [])) _
      refine XS.iconst X169.here hx rfl (hb hby d5_32) ?_
      exact k
    obtain ⟨fs, hr, hrun, hended, hW, hsame⟩ := X169.leave (v := some (.int (0 : Int32))) (fun h => by rw [Bd.returns] at h; cases h)
    refine ⟨_, _, ?_, hrun, hended, _, _, rfl, ?_, ⟨_, rfl⟩, hW, hsame.mono (by decide) (by decide)⟩
    · show Steps p.tables e below (T169.setTop (mkF m 33 #[.val (.ref a1), .val (.int (0 : Int32)), .val (.int (3 : Int32)), .val (.ref a4), .val (.ref a5)] [(.int (0 : Int32))])) _
      exact retN X169 hx (t := .boolean) Bd.returns (by simp) (hb hby d5_33) hr
    · show Qrm5_0_3 Z a1 a4 a5 b1 b2 k1 k2 k3 k4 x0 x1 x2 x3 x4 x5 x6 x7 x8 x9 x10 x11 x12 x13 x14 x15 y0 y1 y2 y3 y4 y5 y6 y7 y8 y9 y10 y11 y12 y13 y14 y15 l0 l1 l2 m0 m1 m2 h0 n0 _ T169.heap _
      rw [e169]
      exact ⟨(by simp only [frm5_0_3, if_neg hc13_171]), N169, rfl⟩
def Qrm5_1_0 (Z : State) (a1 : Addr) (a4 : Addr) (a5 : Addr) (h0 : Heap) (n0 : Nat) (v : Option Value) (h : Heap) (L : List Loc) : Prop := v = some (.int (1 : Int32)) ∧ Fr n0 L ∧ h = h0
theorem efrm5_1_0 (m : MethodId) (x0 : Addr) (x3 : Addr) (x4 : Addr) : entryFrame m #[(.ref x0), (.int (1 : Int32)), (.int (0 : Int32)), (.ref x3), (.ref x4)] 5 = mkF m 0 #[.val (.ref x0), .val (.int (1 : Int32)), .val (.int (0 : Int32)), .val (.ref x3), .val (.ref x4)] [] := by first | (simp [entryFrame, mkF, argsToLocals, Value.category]; done) | rfl
set_option maxRecDepth 65536 in
set_option maxHeartbeats 40000000 in
theorem rm5_1_0 (l : Launch) (Z : State) (a0 : Array Value) (hw : ∀ d ∈ tables_1, d.before a0 Z = true) (ws : List Jvm.Cond) (a1 : Addr) (a4 : Addr) (a5 : Addr) (h0 : Heap) (n0 : Nat) (Z0 : n0 ≤ h0.size)  :
    MetFree l (⟨"com/example/axiomwright/axiomwright/ArcsAddAllPinLaw", "at", "(Lcom/example/axiomwright/axiomwright/Arcs;II[I[I)Z"⟩ : MethodName) (head1 (Jvm.Cond.code (⟨"com/example/axiomwright/axiomwright/ArcsAddAllPinLaw", "at", "(Lcom/example/axiomwright/axiomwright/Arcs;II[I[I)Z"⟩ : MethodName) method_2_code 5 (some .boolean) :: ws) ({ frames := 0, cells := 0, slots := 0, locals := 0 } : Room)) (fun a U => a = #[(.ref a1), (.int (1 : Int32)), (.int (0 : Int32)), (.ref a4), (.ref a5)] ∧ Z.Warmed39 U.vm ∧ U.heap = h0) (fun _ _ _ _ _ => True) (fun _ U o U' => ∃ v L, o = .returned v ∧ Qrm5_1_0 Z a1 a4 a5 h0 n0 v U'.heap L ∧ FrameEnd U o U' L ({ frames := 0, cells := 0, slots := 0, locals := 0 } : Room).cells ({ frames := 0, cells := 0, slots := 0, locals := 0 } : Room).slots) := by
  refine MetFree.of_bodySF (plainFor_of_name pn_1) hisR ?_
  intro p e s m args below meth c s₁ Bd hml0 hP hK
  obtain ⟨rfl, hZ, hh⟩ := hP
  have hx := Bd.exec
  have hby := Bd.bytes
  have hml : c.maxLocals = 5 := hml0
  have hown : s.vm.findClass "com/example/axiomwright/axiomwright/ArcsAddAllPinLaw" = some m.cls := findClass_of_methodNamed Bd.named
  have hnm := (name_of_methodNamed Bd.named Bd.method).1
  have X0 : Stand p l e ({ frames := 0, cells := 0, slots := 0, locals := 0 } : Room) s m #[(.ref a1), (.int (1 : Int32)), (.int (0 : Int32)), (.ref a4), (.ref a5)] below meth c s₁ [] 0 0 := Stand.of_body Bd
  have e0 : s₁.heap = h0 := by rw [← hh, Bd.state]; rfl
  have N0 := Fr.nil n0
  have K0 : Keep h0 h0 [] := Keep.refl h0 _
  refine own_go (B := s₁.setTop (mkF m 0 #[.val (.ref a1), .val (.int (1 : Int32)), .val (.int (0 : Int32)), .val (.ref a4), .val (.ref a5)] [])) (fun t k => castTop (efrm5_1_0 m a1 a4 a5) k) ?_
  refine own_go (A := s₁.setTop (mkF m 0 #[.val (.ref a1), .val (.int (1 : Int32)), .val (.int (0 : Int32)), .val (.ref a4), .val (.ref a5)] [])) (B := s₁.setTop (mkF m 33 #[.val (.ref a1), .val (.int (1 : Int32)), .val (.int (0 : Int32)), .val (.ref a4), .val (.ref a5)] [(.int (1 : Int32))])) (fun t k => ?_) ?_
  · show Steps p.tables e below (s₁.setTop (mkF m 0 #[.val (.ref a1), .val (.int (1 : Int32)), .val (.int (0 : Int32)), .val (.ref a4), .val (.ref a5)] [])) _
    refine XS.iloadN X0.here hx rfl (hb hby d5_0) rfl ?_
    show Steps p.tables e below (s₁.setTop (mkF m 1 #[.val (.ref a1), .val (.int (1 : Int32)), .val (.int (0 : Int32)), .val (.ref a4), .val (.ref a5)] [(.int (1 : Int32))])) _
    refine XS.iloadN X0.here hx rfl (hb hby d5_1) rfl ?_
    show Steps p.tables e below (s₁.setTop (mkF m 2 #[.val (.ref a1), .val (.int (1 : Int32)), .val (.int (0 : Int32)), .val (.ref a4), .val (.ref a5)] [(.int (0 : Int32)), (.int (1 : Int32))])) _
    refine XS.icmpYes X0.here hx rfl (pc0 := 2) (pc' := 28) rfl (hb hby d5_2) rfl (flt (by decide : ¬ ((1 : Int32) < (0 : Int32)))).2.1 (by decide) (by decide) ?_
    show Steps p.tables e below (s₁.setTop (mkF m 28 #[.val (.ref a1), .val (.int (1 : Int32)), .val (.int (0 : Int32)), .val (.ref a4), .val (.ref a5)] [])) _
    refine XS.iconst X0.here hx rfl (hb hby d5_28) ?_
    show Steps p.tables e below (s₁.setTop (mkF m 29 #[.val (.ref a1), .val (.int (1 : Int32)), .val (.int (0 : Int32)), .val (.ref a4), .val (.ref a5)] [(.int (1 : Int32))])) _
    refine XS.goto X0.here hx rfl (pc0 := 29) (pc' := 33) rfl (hb hby d5_29) (by decide) (by decide) ?_
    exact k
  obtain ⟨fs, hr, hrun, hended, hW, hsame⟩ := X0.leave (v := some (.int (1 : Int32))) (fun h => by rw [Bd.returns] at h; cases h)
  refine ⟨_, _, ?_, hrun, hended, _, _, rfl, ?_, ⟨_, rfl⟩, hW, hsame.mono (by decide) (by decide)⟩
  · show Steps p.tables e below (s₁.setTop (mkF m 33 #[.val (.ref a1), .val (.int (1 : Int32)), .val (.int (0 : Int32)), .val (.ref a4), .val (.ref a5)] [(.int (1 : Int32))])) _
    exact retN X0 hx (t := .boolean) Bd.returns (by simp) (hb hby d5_33) hr
  · show Qrm5_1_0 Z a1 a4 a5 h0 n0 _ s₁.heap _
    rw [e0]
    exact ⟨rfl, N0, rfl⟩
def Qrm5_1_1 (Z : State) (a1 : Addr) (a4 : Addr) (a5 : Addr) (h0 : Heap) (n0 : Nat) (v : Option Value) (h : Heap) (L : List Loc) : Prop := v = some (.int (1 : Int32)) ∧ Fr n0 L ∧ h = h0
theorem efrm5_1_1 (m : MethodId) (x0 : Addr) (x3 : Addr) (x4 : Addr) : entryFrame m #[(.ref x0), (.int (1 : Int32)), (.int (1 : Int32)), (.ref x3), (.ref x4)] 5 = mkF m 0 #[.val (.ref x0), .val (.int (1 : Int32)), .val (.int (1 : Int32)), .val (.ref x3), .val (.ref x4)] [] := by first | (simp [entryFrame, mkF, argsToLocals, Value.category]; done) | rfl
set_option maxRecDepth 65536 in
set_option maxHeartbeats 40000000 in
theorem rm5_1_1 (l : Launch) (Z : State) (a0 : Array Value) (hw : ∀ d ∈ tables_1, d.before a0 Z = true) (ws : List Jvm.Cond) (a1 : Addr) (a4 : Addr) (a5 : Addr) (h0 : Heap) (n0 : Nat) (Z0 : n0 ≤ h0.size)  :
    MetFree l (⟨"com/example/axiomwright/axiomwright/ArcsAddAllPinLaw", "at", "(Lcom/example/axiomwright/axiomwright/Arcs;II[I[I)Z"⟩ : MethodName) (head1 (Jvm.Cond.code (⟨"com/example/axiomwright/axiomwright/ArcsAddAllPinLaw", "at", "(Lcom/example/axiomwright/axiomwright/Arcs;II[I[I)Z"⟩ : MethodName) method_2_code 5 (some .boolean) :: ws) ({ frames := 0, cells := 0, slots := 0, locals := 0 } : Room)) (fun a U => a = #[(.ref a1), (.int (1 : Int32)), (.int (1 : Int32)), (.ref a4), (.ref a5)] ∧ Z.Warmed39 U.vm ∧ U.heap = h0) (fun _ _ _ _ _ => True) (fun _ U o U' => ∃ v L, o = .returned v ∧ Qrm5_1_1 Z a1 a4 a5 h0 n0 v U'.heap L ∧ FrameEnd U o U' L ({ frames := 0, cells := 0, slots := 0, locals := 0 } : Room).cells ({ frames := 0, cells := 0, slots := 0, locals := 0 } : Room).slots) := by
  refine MetFree.of_bodySF (plainFor_of_name pn_1) hisR ?_
  intro p e s m args below meth c s₁ Bd hml0 hP hK
  obtain ⟨rfl, hZ, hh⟩ := hP
  have hx := Bd.exec
  have hby := Bd.bytes
  have hml : c.maxLocals = 5 := hml0
  have hown : s.vm.findClass "com/example/axiomwright/axiomwright/ArcsAddAllPinLaw" = some m.cls := findClass_of_methodNamed Bd.named
  have hnm := (name_of_methodNamed Bd.named Bd.method).1
  have X0 : Stand p l e ({ frames := 0, cells := 0, slots := 0, locals := 0 } : Room) s m #[(.ref a1), (.int (1 : Int32)), (.int (1 : Int32)), (.ref a4), (.ref a5)] below meth c s₁ [] 0 0 := Stand.of_body Bd
  have e0 : s₁.heap = h0 := by rw [← hh, Bd.state]; rfl
  have N0 := Fr.nil n0
  have K0 : Keep h0 h0 [] := Keep.refl h0 _
  refine own_go (B := s₁.setTop (mkF m 0 #[.val (.ref a1), .val (.int (1 : Int32)), .val (.int (1 : Int32)), .val (.ref a4), .val (.ref a5)] [])) (fun t k => castTop (efrm5_1_1 m a1 a4 a5) k) ?_
  refine own_go (A := s₁.setTop (mkF m 0 #[.val (.ref a1), .val (.int (1 : Int32)), .val (.int (1 : Int32)), .val (.ref a4), .val (.ref a5)] [])) (B := s₁.setTop (mkF m 33 #[.val (.ref a1), .val (.int (1 : Int32)), .val (.int (1 : Int32)), .val (.ref a4), .val (.ref a5)] [(.int (1 : Int32))])) (fun t k => ?_) ?_
  · show Steps p.tables e below (s₁.setTop (mkF m 0 #[.val (.ref a1), .val (.int (1 : Int32)), .val (.int (1 : Int32)), .val (.ref a4), .val (.ref a5)] [])) _
    refine XS.iloadN X0.here hx rfl (hb hby d5_0) rfl ?_
    show Steps p.tables e below (s₁.setTop (mkF m 1 #[.val (.ref a1), .val (.int (1 : Int32)), .val (.int (1 : Int32)), .val (.ref a4), .val (.ref a5)] [(.int (1 : Int32))])) _
    refine XS.iloadN X0.here hx rfl (hb hby d5_1) rfl ?_
    show Steps p.tables e below (s₁.setTop (mkF m 2 #[.val (.ref a1), .val (.int (1 : Int32)), .val (.int (1 : Int32)), .val (.ref a4), .val (.ref a5)] [(.int (1 : Int32)), (.int (1 : Int32))])) _
    refine XS.icmpYes X0.here hx rfl (pc0 := 2) (pc' := 28) rfl (hb hby d5_2) rfl (flt Int32.lt_irrefl).2.1 (by decide) (by decide) ?_
    show Steps p.tables e below (s₁.setTop (mkF m 28 #[.val (.ref a1), .val (.int (1 : Int32)), .val (.int (1 : Int32)), .val (.ref a4), .val (.ref a5)] [])) _
    refine XS.iconst X0.here hx rfl (hb hby d5_28) ?_
    show Steps p.tables e below (s₁.setTop (mkF m 29 #[.val (.ref a1), .val (.int (1 : Int32)), .val (.int (1 : Int32)), .val (.ref a4), .val (.ref a5)] [(.int (1 : Int32))])) _
    refine XS.goto X0.here hx rfl (pc0 := 29) (pc' := 33) rfl (hb hby d5_29) (by decide) (by decide) ?_
    exact k
  obtain ⟨fs, hr, hrun, hended, hW, hsame⟩ := X0.leave (v := some (.int (1 : Int32))) (fun h => by rw [Bd.returns] at h; cases h)
  refine ⟨_, _, ?_, hrun, hended, _, _, rfl, ?_, ⟨_, rfl⟩, hW, hsame.mono (by decide) (by decide)⟩
  · show Steps p.tables e below (s₁.setTop (mkF m 33 #[.val (.ref a1), .val (.int (1 : Int32)), .val (.int (1 : Int32)), .val (.ref a4), .val (.ref a5)] [(.int (1 : Int32))])) _
    exact retN X0 hx (t := .boolean) Bd.returns (by simp) (hb hby d5_33) hr
  · show Qrm5_1_1 Z a1 a4 a5 h0 n0 _ s₁.heap _
    rw [e0]
    exact ⟨rfl, N0, rfl⟩
def frm5_1_2 (x1 : Int32) (y1 : Int32) (l1 : Int32) (m1 : Int32) : Int32 := (if x1 = l1 then (if y1 = m1 then (1 : Int32) else (0 : Int32)) else (0 : Int32))
def Qrm5_1_2 (Z : State) (a1 : Addr) (a4 : Addr) (a5 : Addr) (b1 : Addr) (b2 : Addr) (k1 : ClassId) (k2 : ClassId) (k3 : ClassId) (k4 : ClassId) (x0 : Int32) (x1 : Int32) (x2 : Int32) (x3 : Int32) (x4 : Int32) (x5 : Int32) (x6 : Int32) (x7 : Int32) (x8 : Int32) (x9 : Int32) (x10 : Int32) (x11 : Int32) (x12 : Int32) (x13 : Int32) (x14 : Int32) (x15 : Int32) (y0 : Int32) (y1 : Int32) (y2 : Int32) (y3 : Int32) (y4 : Int32) (y5 : Int32) (y6 : Int32) (y7 : Int32) (y8 : Int32) (y9 : Int32) (y10 : Int32) (y11 : Int32) (y12 : Int32) (y13 : Int32) (y14 : Int32) (y15 : Int32) (l0 : Int32) (l1 : Int32) (l2 : Int32) (m0 : Int32) (m1 : Int32) (m2 : Int32) (h0 : Heap) (n0 : Nat) (v : Option Value) (h : Heap) (L : List Loc) : Prop := v = some (.int (frm5_1_2 x1 y1 l1 m1)) ∧ Fr n0 L ∧ h = h0
theorem efrm5_1_2 (m : MethodId) (x0 : Addr) (x3 : Addr) (x4 : Addr) : entryFrame m #[(.ref x0), (.int (1 : Int32)), (.int (2 : Int32)), (.ref x3), (.ref x4)] 5 = mkF m 0 #[.val (.ref x0), .val (.int (1 : Int32)), .val (.int (2 : Int32)), .val (.ref x3), .val (.ref x4)] [] := by first | (simp [entryFrame, mkF, argsToLocals, Value.category]; done) | rfl
set_option maxRecDepth 65536 in
set_option maxHeartbeats 40000000 in
theorem rm5_1_2 (l : Launch) (Z : State) (a0 : Array Value) (hw : ∀ d ∈ tables_1, d.before a0 Z = true) (ws : List Jvm.Cond) (a1 : Addr) (a4 : Addr) (a5 : Addr) (b1 : Addr) (b2 : Addr) (k1 : ClassId) (k2 : ClassId) (k3 : ClassId) (k4 : ClassId) (x0 : Int32) (x1 : Int32) (x2 : Int32) (x3 : Int32) (x4 : Int32) (x5 : Int32) (x6 : Int32) (x7 : Int32) (x8 : Int32) (x9 : Int32) (x10 : Int32) (x11 : Int32) (x12 : Int32) (x13 : Int32) (x14 : Int32) (x15 : Int32) (y0 : Int32) (y1 : Int32) (y2 : Int32) (y3 : Int32) (y4 : Int32) (y5 : Int32) (y6 : Int32) (y7 : Int32) (y8 : Int32) (y9 : Int32) (y10 : Int32) (y11 : Int32) (y12 : Int32) (y13 : Int32) (y14 : Int32) (y15 : Int32) (l0 : Int32) (l1 : Int32) (l2 : Int32) (m0 : Int32) (m1 : Int32) (m2 : Int32) (h0 : Heap) (n0 : Nat) (Z0 : n0 ≤ h0.size) (P0 : Exa Z h0 a1 "com/example/axiomwright/axiomwright/Arcs") (P1 : Fld Z h0 a1 "com/example/axiomwright/axiomwright/Arcs" "from" "[I" (.ref b1)) (P2 : Fld Z h0 a1 "com/example/axiomwright/axiomwright/Arcs" "to" "[I" (.ref b2)) (P3 : Arv Z h0 b1 k1 .int (16 : Int32) [(.int x0), (.int x1), (.int x2), (.int x3), (.int x4), (.int x5), (.int x6), (.int x7), (.int x8), (.int x9), (.int x10), (.int x11), (.int x12), (.int x13), (.int x14), (.int x15)] (.int (0 : Int32))) (P4 : Arv Z h0 b2 k2 .int (16 : Int32) [(.int y0), (.int y1), (.int y2), (.int y3), (.int y4), (.int y5), (.int y6), (.int y7), (.int y8), (.int y9), (.int y10), (.int y11), (.int y12), (.int y13), (.int y14), (.int y15)] (.int (0 : Int32))) (P5 : Arv Z h0 a4 k3 .int (3 : Int32) [(.int l0), (.int l1), (.int l2)] (.int (0 : Int32))) (P6 : Arv Z h0 a5 k4 .int (3 : Int32) [(.int m0), (.int m1), (.int m2)] (.int (0 : Int32))) :
    MetFree l (⟨"com/example/axiomwright/axiomwright/ArcsAddAllPinLaw", "at", "(Lcom/example/axiomwright/axiomwright/Arcs;II[I[I)Z"⟩ : MethodName) (head1 (Jvm.Cond.code (⟨"com/example/axiomwright/axiomwright/ArcsAddAllPinLaw", "at", "(Lcom/example/axiomwright/axiomwright/Arcs;II[I[I)Z"⟩ : MethodName) method_2_code 5 (some .boolean) :: ws) ({ frames := 1, cells := 0, slots := 0, locals := 13 } : Room)) (fun a U => a = #[(.ref a1), (.int (1 : Int32)), (.int (2 : Int32)), (.ref a4), (.ref a5)] ∧ Z.Warmed39 U.vm ∧ U.heap = h0) (fun _ _ _ _ _ => True) (fun _ U o U' => ∃ v L, o = .returned v ∧ Qrm5_1_2 Z a1 a4 a5 b1 b2 k1 k2 k3 k4 x0 x1 x2 x3 x4 x5 x6 x7 x8 x9 x10 x11 x12 x13 x14 x15 y0 y1 y2 y3 y4 y5 y6 y7 y8 y9 y10 y11 y12 y13 y14 y15 l0 l1 l2 m0 m1 m2 h0 n0 v U'.heap L ∧ FrameEnd U o U' L ({ frames := 1, cells := 0, slots := 0, locals := 13 } : Room).cells ({ frames := 1, cells := 0, slots := 0, locals := 13 } : Room).slots) := by
  refine MetFree.of_bodySF (plainFor_of_name pn_1) hisR ?_
  intro p e s m args below meth c s₁ Bd hml0 hP hK
  obtain ⟨rfl, hZ, hh⟩ := hP
  have hx := Bd.exec
  have hby := Bd.bytes
  have hml : c.maxLocals = 5 := hml0
  have hown : s.vm.findClass "com/example/axiomwright/axiomwright/ArcsAddAllPinLaw" = some m.cls := findClass_of_methodNamed Bd.named
  have hnm := (name_of_methodNamed Bd.named Bd.method).1
  have X0 : Stand p l e ({ frames := 1, cells := 0, slots := 0, locals := 13 } : Room) s m #[(.ref a1), (.int (1 : Int32)), (.int (2 : Int32)), (.ref a4), (.ref a5)] below meth c s₁ [] 0 0 := Stand.of_body Bd
  have e0 : s₁.heap = h0 := by rw [← hh, Bd.state]; rfl
  have N0 := Fr.nil n0
  have K0 : Keep h0 h0 [] := Keep.refl h0 _
  refine own_go (B := s₁.setTop (mkF m 0 #[.val (.ref a1), .val (.int (1 : Int32)), .val (.int (2 : Int32)), .val (.ref a4), .val (.ref a5)] [])) (fun t k => castTop (efrm5_1_2 m a1 a4 a5) k) ?_
  refine own_go (A := s₁.setTop (mkF m 0 #[.val (.ref a1), .val (.int (1 : Int32)), .val (.int (2 : Int32)), .val (.ref a4), .val (.ref a5)] [])) (B := s₁.setTop (mkF m 7 #[.val (.ref a1), .val (.int (1 : Int32)), .val (.int (2 : Int32)), .val (.ref a4), .val (.ref a5)] [(.int (1 : Int32)), (.ref a1)])) (fun t k => ?_) ?_
  · show Steps p.tables e below (s₁.setTop (mkF m 0 #[.val (.ref a1), .val (.int (1 : Int32)), .val (.int (2 : Int32)), .val (.ref a4), .val (.ref a5)] [])) _
    refine XS.iloadN X0.here hx rfl (hb hby d5_0) rfl ?_
    show Steps p.tables e below (s₁.setTop (mkF m 1 #[.val (.ref a1), .val (.int (1 : Int32)), .val (.int (2 : Int32)), .val (.ref a4), .val (.ref a5)] [(.int (1 : Int32))])) _
    refine XS.iloadN X0.here hx rfl (hb hby d5_1) rfl ?_
    show Steps p.tables e below (s₁.setTop (mkF m 2 #[.val (.ref a1), .val (.int (1 : Int32)), .val (.int (2 : Int32)), .val (.ref a4), .val (.ref a5)] [(.int (2 : Int32)), (.int (1 : Int32))])) _
    refine XS.icmpNo X0.here hx rfl (hb hby d5_2) rfl (tlt (by decide : ((1 : Int32) < (2 : Int32)))).2.1 ?_
    show Steps p.tables e below (s₁.setTop (mkF m 5 #[.val (.ref a1), .val (.int (1 : Int32)), .val (.int (2 : Int32)), .val (.ref a4), .val (.ref a5)] [])) _
    refine XS.aloadN X0.here hx rfl (hb hby d5_5) rfl rfl ?_
    show Steps p.tables e below (s₁.setTop (mkF m 6 #[.val (.ref a1), .val (.int (1 : Int32)), .val (.int (2 : Int32)), .val (.ref a4), .val (.ref a5)] [(.ref a1)])) _
    refine XS.iloadN X0.here hx rfl (hb hby d5_6) rfl ?_
    exact k
  obtain ⟨cq178, kq178, q178a, q178b, q178c⟩ := isOf hZ e0 P0
  obtain ⟨_, _, ⟨T178, L178, k178, n178⟩, -, X178, ⟨Lc178, hQ178, l178, y178, z178⟩, st178⟩ := X0.virtualBack hx (y := (⟨"com/example/axiomwright/axiomwright/Arcs", "tail", "(I)I"⟩ : MethodName)) (z := (⟨"com/example/axiomwright/axiomwright/Arcs", "tail", "(I)I"⟩ : MethodName)) hown (mvT hZ (hw _ (List.mem_of_getElem? (i := 36) rfl))) (mvT hZ (hw _ (List.mem_of_getElem? (i := 37) rfl))) (notFace_of_selects (args := #[]) (mvT hZ (hw _ (List.mem_of_getElem? (i := 39) rfl)))) (mvT hZ (hw _ (List.mem_of_getElem? (i := 39) rfl))) (mvT hZ (hw _ (List.mem_of_getElem? (i := 38) rfl))) (by decide) (backOf (W := 0) (rm7_1_16 l Z a0 hw [] a1 b1 k1 x0 x1 x2 x3 x4 x5 x6 x7 x8 x9 x10 x11 x12 x13 x14 x15 h0 n0 Z0 P1 P3) hZ (hw _ (List.mem_of_getElem? (i := 40) rfl)) (hw _ (List.mem_of_getElem? (i := 3) rfl)) (by decide) (by decide)) q178a q178c (g := (mkF m 7 #[.val (.ref a1), .val (.int (1 : Int32)), .val (.int (2 : Int32)), .val (.ref a4), .val (.ref a5)] [(.int (1 : Int32)), (.ref a1)])) rfl (by rw [hml]; rfl) (Steps.refl _) (argsL := [(.int (1 : Int32))]) (rest := []) (lenOf pd_1 rfl) rfl (by show 2 * 0 + _ ≤ _; exact Nat.le_of_eq rfl) (hb hby d5_7) (fun _ _ => ⟨rfl, e0, (by decide : 0 + 0 ≤ _), (by decide : 0 + 0 ≤ _)⟩)
  dsimp only [Pt.U, Pt.locs, Pt.cells, Pt.slots] at X178 l178 y178 z178 st178 hQ178
  subst l178 y178 z178
  obtain ⟨rfl, Nq178, e178⟩ := hQ178
  have N178 := Fr.app N0 Nq178
  refine own_go (A := _) (B := T178.setTop (mkF m 10 #[.val (.ref a1), .val (.int (1 : Int32)), .val (.int (2 : Int32)), .val (.ref a4), .val (.ref a5)] [(.int x1)])) (fun t k => st178.trans k) ?_
  refine own_go (A := T178.setTop (mkF m 10 #[.val (.ref a1), .val (.int (1 : Int32)), .val (.int (2 : Int32)), .val (.ref a4), .val (.ref a5)] [(.int x1)])) (B := T178.setTop (mkF m 12 #[.val (.ref a1), .val (.int (1 : Int32)), .val (.int (2 : Int32)), .val (.ref a4), .val (.ref a5)] [(.int (1 : Int32)), (.ref a4), (.int x1)])) (fun t k => ?_) ?_
  · show Steps p.tables e below (T178.setTop (mkF m 10 #[.val (.ref a1), .val (.int (1 : Int32)), .val (.int (2 : Int32)), .val (.ref a4), .val (.ref a5)] [(.int x1)])) _
    refine XS.aloadN X178.here hx rfl (hb hby d5_10) rfl rfl ?_
    show Steps p.tables e below (T178.setTop (mkF m 11 #[.val (.ref a1), .val (.int (1 : Int32)), .val (.int (2 : Int32)), .val (.ref a4), .val (.ref a5)] [(.ref a4), (.int x1)])) _
    refine XS.iloadN X178.here hx rfl (hb hby d5_11) rfl ?_
    exact k
  obtain ⟨cl179, Ar179, q179, S179, M179, Ha179, G179⟩ := id P5
  have hin179 : ¬ ((1 : Int32) < 0 ∨ cl179.slots.size ≤ ((1 : Int32)).toNatClampNeg) := inb_of S179 ⟨by decide, by decide⟩
  refine own_go (A := T178.setTop (mkF m 12 #[.val (.ref a1), .val (.int (1 : Int32)), .val (.int (2 : Int32)), .val (.ref a4), .val (.ref a5)] [(.int (1 : Int32)), (.ref a4), (.int x1)])) (X178.iaload hx (j := (1 : Int32)) (v := (.int l1)) (by rw [e178]; exact Ar179.1) (State.isArrayOf_alike hZ.alike Ar179.2.1) Ar179.2.2 hin179 (Has.at Ha179 hin179 rfl) (g := (mkF m 12 #[.val (.ref a1), .val (.int (1 : Int32)), .val (.int (2 : Int32)), .val (.ref a4), .val (.ref a5)] [(.int (1 : Int32)), (.ref a4), (.int x1)])) rfl rfl (hb hby d5_12)) ?_
  by_cases hc13_180 : x1 = l1
  · refine own_go (A := T178.setTop (mkF m 13 #[.val (.ref a1), .val (.int (1 : Int32)), .val (.int (2 : Int32)), .val (.ref a4), .val (.ref a5)] [(.int l1), (.int x1)])) (B := T178.setTop (mkF m 16 #[.val (.ref a1), .val (.int (1 : Int32)), .val (.int (2 : Int32)), .val (.ref a4), .val (.ref a5)] [])) (fun t k => ?_) ?_
    · show Steps p.tables e below (T178.setTop (mkF m 13 #[.val (.ref a1), .val (.int (1 : Int32)), .val (.int (2 : Int32)), .val (.ref a4), .val (.ref a5)] [(.int l1), (.int x1)])) _
      refine XS.icmpNo X178.here hx rfl (hb hby d5_13) rfl (teq hc13_180).2 ?_
      exact k
    refine own_go (A := T178.setTop (mkF m 16 #[.val (.ref a1), .val (.int (1 : Int32)), .val (.int (2 : Int32)), .val (.ref a4), .val (.ref a5)] [])) (B := T178.setTop (mkF m 18 #[.val (.ref a1), .val (.int (1 : Int32)), .val (.int (2 : Int32)), .val (.ref a4), .val (.ref a5)] [(.int (1 : Int32)), (.ref a1)])) (fun t k => ?_) ?_
    · show Steps p.tables e below (T178.setTop (mkF m 16 #[.val (.ref a1), .val (.int (1 : Int32)), .val (.int (2 : Int32)), .val (.ref a4), .val (.ref a5)] [])) _
      refine XS.aloadN X178.here hx rfl (hb hby d5_16) rfl rfl ?_
      show Steps p.tables e below (T178.setTop (mkF m 17 #[.val (.ref a1), .val (.int (1 : Int32)), .val (.int (2 : Int32)), .val (.ref a4), .val (.ref a5)] [(.ref a1)])) _
      refine XS.iloadN X178.here hx rfl (hb hby d5_17) rfl ?_
      exact k
    obtain ⟨cq181, kq181, q181a, q181b, q181c⟩ := isOf hZ e178 P0
    obtain ⟨_, _, ⟨T181, L181, k181, n181⟩, -, X181, ⟨Lc181, hQ181, l181, y181, z181⟩, st181⟩ := X178.virtualBack hx (y := (⟨"com/example/axiomwright/axiomwright/Arcs", "head", "(I)I"⟩ : MethodName)) (z := (⟨"com/example/axiomwright/axiomwright/Arcs", "head", "(I)I"⟩ : MethodName)) hown (mvT hZ (hw _ (List.mem_of_getElem? (i := 41) rfl))) (mvT hZ (hw _ (List.mem_of_getElem? (i := 42) rfl))) (notFace_of_selects (args := #[]) (mvT hZ (hw _ (List.mem_of_getElem? (i := 44) rfl)))) (mvT hZ (hw _ (List.mem_of_getElem? (i := 44) rfl))) (mvT hZ (hw _ (List.mem_of_getElem? (i := 43) rfl))) (by decide) (backOf (W := 0) (rm8_1_16 l Z a0 hw [] a1 b2 k2 y0 y1 y2 y3 y4 y5 y6 y7 y8 y9 y10 y11 y12 y13 y14 y15 h0 n0 Z0 P2 P4) hZ (hw _ (List.mem_of_getElem? (i := 45) rfl)) (hw _ (List.mem_of_getElem? (i := 3) rfl)) (by decide) (by decide)) q181a q181c (g := (mkF m 18 #[.val (.ref a1), .val (.int (1 : Int32)), .val (.int (2 : Int32)), .val (.ref a4), .val (.ref a5)] [(.int (1 : Int32)), (.ref a1)])) rfl (by rw [hml]; rfl) (Steps.refl _) (argsL := [(.int (1 : Int32))]) (rest := []) (lenOf pd_1 rfl) rfl (by show 2 * 0 + _ ≤ _; exact Nat.le_of_eq rfl) (hb hby d5_18) (fun _ _ => ⟨rfl, e178, (by decide : 0 + 0 ≤ _), (by decide : 0 + 0 ≤ _)⟩)
    dsimp only [Pt.U, Pt.locs, Pt.cells, Pt.slots] at X181 l181 y181 z181 st181 hQ181
    subst l181 y181 z181
    obtain ⟨rfl, Nq181, e181⟩ := hQ181
    have N181 := Fr.app N178 Nq181
    refine own_go (A := _) (B := T181.setTop (mkF m 21 #[.val (.ref a1), .val (.int (1 : Int32)), .val (.int (2 : Int32)), .val (.ref a4), .val (.ref a5)] [(.int y1)])) (fun t k => st181.trans k) ?_
    refine own_go (A := T181.setTop (mkF m 21 #[.val (.ref a1), .val (.int (1 : Int32)), .val (.int (2 : Int32)), .val (.ref a4), .val (.ref a5)] [(.int y1)])) (B := T181.setTop (mkF m 24 #[.val (.ref a1), .val (.int (1 : Int32)), .val (.int (2 : Int32)), .val (.ref a4), .val (.ref a5)] [(.int (1 : Int32)), (.ref a5), (.int y1)])) (fun t k => ?_) ?_
    · show Steps p.tables e below (T181.setTop (mkF m 21 #[.val (.ref a1), .val (.int (1 : Int32)), .val (.int (2 : Int32)), .val (.ref a4), .val (.ref a5)] [(.int y1)])) _
      refine XS.aload X181.here hx rfl (hb hby d5_21) rfl rfl ?_
      show Steps p.tables e below (T181.setTop (mkF m 23 #[.val (.ref a1), .val (.int (1 : Int32)), .val (.int (2 : Int32)), .val (.ref a4), .val (.ref a5)] [(.ref a5), (.int y1)])) _
      refine XS.iloadN X181.here hx rfl (hb hby d5_23) rfl ?_
      exact k
    obtain ⟨cl182, Ar182, q182, S182, M182, Ha182, G182⟩ := id P6
    have hin182 : ¬ ((1 : Int32) < 0 ∨ cl182.slots.size ≤ ((1 : Int32)).toNatClampNeg) := inb_of S182 ⟨by decide, by decide⟩
    refine own_go (A := T181.setTop (mkF m 24 #[.val (.ref a1), .val (.int (1 : Int32)), .val (.int (2 : Int32)), .val (.ref a4), .val (.ref a5)] [(.int (1 : Int32)), (.ref a5), (.int y1)])) (X181.iaload hx (j := (1 : Int32)) (v := (.int m1)) (by rw [e181]; exact Ar182.1) (State.isArrayOf_alike hZ.alike Ar182.2.1) Ar182.2.2 hin182 (Has.at Ha182 hin182 rfl) (g := (mkF m 24 #[.val (.ref a1), .val (.int (1 : Int32)), .val (.int (2 : Int32)), .val (.ref a4), .val (.ref a5)] [(.int (1 : Int32)), (.ref a5), (.int y1)])) rfl rfl (hb hby d5_24)) ?_
    by_cases hc25_183 : y1 = m1
    · refine own_go (A := T181.setTop (mkF m 25 #[.val (.ref a1), .val (.int (1 : Int32)), .val (.int (2 : Int32)), .val (.ref a4), .val (.ref a5)] [(.int m1), (.int y1)])) (B := T181.setTop (mkF m 28 #[.val (.ref a1), .val (.int (1 : Int32)), .val (.int (2 : Int32)), .val (.ref a4), .val (.ref a5)] [])) (fun t k => ?_) ?_
      · show Steps p.tables e below (T181.setTop (mkF m 25 #[.val (.ref a1), .val (.int (1 : Int32)), .val (.int (2 : Int32)), .val (.ref a4), .val (.ref a5)] [(.int m1), (.int y1)])) _
        refine XS.icmpNo X181.here hx rfl (hb hby d5_25) rfl (teq hc25_183).2 ?_
        exact k
      refine own_go (A := T181.setTop (mkF m 28 #[.val (.ref a1), .val (.int (1 : Int32)), .val (.int (2 : Int32)), .val (.ref a4), .val (.ref a5)] [])) (B := T181.setTop (mkF m 33 #[.val (.ref a1), .val (.int (1 : Int32)), .val (.int (2 : Int32)), .val (.ref a4), .val (.ref a5)] [(.int (1 : Int32))])) (fun t k => ?_) ?_
      · show Steps p.tables e below (T181.setTop (mkF m 28 #[.val (.ref a1), .val (.int (1 : Int32)), .val (.int (2 : Int32)), .val (.ref a4), .val (.ref a5)] [])) _
        refine XS.iconst X181.here hx rfl (hb hby d5_28) ?_
        show Steps p.tables e below (T181.setTop (mkF m 29 #[.val (.ref a1), .val (.int (1 : Int32)), .val (.int (2 : Int32)), .val (.ref a4), .val (.ref a5)] [(.int (1 : Int32))])) _
        refine XS.goto X181.here hx rfl (pc0 := 29) (pc' := 33) rfl (hb hby d5_29) (by decide) (by decide) ?_
        exact k
      obtain ⟨fs, hr, hrun, hended, hW, hsame⟩ := X181.leave (v := some (.int (1 : Int32))) (fun h => by rw [Bd.returns] at h; cases h)
      refine ⟨_, _, ?_, hrun, hended, _, _, rfl, ?_, ⟨_, rfl⟩, hW, hsame.mono (by decide) (by decide)⟩
      · show Steps p.tables e below (T181.setTop (mkF m 33 #[.val (.ref a1), .val (.int (1 : Int32)), .val (.int (2 : Int32)), .val (.ref a4), .val (.ref a5)] [(.int (1 : Int32))])) _
        exact retN X181 hx (t := .boolean) Bd.returns (by simp) (hb hby d5_33) hr
      · show Qrm5_1_2 Z a1 a4 a5 b1 b2 k1 k2 k3 k4 x0 x1 x2 x3 x4 x5 x6 x7 x8 x9 x10 x11 x12 x13 x14 x15 y0 y1 y2 y3 y4 y5 y6 y7 y8 y9 y10 y11 y12 y13 y14 y15 l0 l1 l2 m0 m1 m2 h0 n0 _ T181.heap _
        rw [e181]
        exact ⟨(by simp only [frm5_1_2, if_pos hc13_180, if_pos hc25_183]), N181, rfl⟩
    · refine own_go (A := T181.setTop (mkF m 25 #[.val (.ref a1), .val (.int (1 : Int32)), .val (.int (2 : Int32)), .val (.ref a4), .val (.ref a5)] [(.int m1), (.int y1)])) (B := T181.setTop (mkF m 32 #[.val (.ref a1), .val (.int (1 : Int32)), .val (.int (2 : Int32)), .val (.ref a4), .val (.ref a5)] [])) (fun t k => ?_) ?_
      · show Steps p.tables e below (T181.setTop (mkF m 25 #[.val (.ref a1), .val (.int (1 : Int32)), .val (.int (2 : Int32)), .val (.ref a4), .val (.ref a5)] [(.int m1), (.int y1)])) _
        refine XS.icmpYes X181.here hx rfl (pc0 := 25) (pc' := 32) rfl (hb hby d5_25) rfl (feq hc25_183).2 (by decide) (by decide) ?_
        exact k
      refine own_go (A := T181.setTop (mkF m 32 #[.val (.ref a1), .val (.int (1 : Int32)), .val (.int (2 : Int32)), .val (.ref a4), .val (.ref a5)] [])) (B := T181.setTop (mkF m 33 #[.val (.ref a1), .val (.int (1 : Int32)), .val (.int (2 : Int32)), .val (.ref a4), .val (.ref a5)] [(.int (0 : Int32))])) (fun t k => ?_) ?_
      · show Steps p.tables e below (T181.setTop (mkF m 32 #[.val (.ref a1), .val (.int (1 : Int32)), .val (.int (2 : Int32)), .val (.ref a4), .val (.ref a5)] [])) _
        refine XS.iconst X181.here hx rfl (hb hby d5_32) ?_
        exact k
      obtain ⟨fs, hr, hrun, hended, hW, hsame⟩ := X181.leave (v := some (.int (0 : Int32))) (fun h => by rw [Bd.returns] at h; cases h)
      refine ⟨_, _, ?_, hrun, hended, _, _, rfl, ?_, ⟨_, rfl⟩, hW, hsame.mono (by decide) (by decide)⟩
      · show Steps p.tables e below (T181.setTop (mkF m 33 #[.val (.ref a1), .val (.int (1 : Int32)), .val (.int (2 : Int32)), .val (.ref a4), .val (.ref a5)] [(.int (0 : Int32))])) _
        exact retN X181 hx (t := .boolean) Bd.returns (by simp) (hb hby d5_33) hr
      · show Qrm5_1_2 Z a1 a4 a5 b1 b2 k1 k2 k3 k4 x0 x1 x2 x3 x4 x5 x6 x7 x8 x9 x10 x11 x12 x13 x14 x15 y0 y1 y2 y3 y4 y5 y6 y7 y8 y9 y10 y11 y12 y13 y14 y15 l0 l1 l2 m0 m1 m2 h0 n0 _ T181.heap _
        rw [e181]
        exact ⟨(by simp only [frm5_1_2, if_pos hc13_180, if_neg hc25_183]), N181, rfl⟩
  · refine own_go (A := T178.setTop (mkF m 13 #[.val (.ref a1), .val (.int (1 : Int32)), .val (.int (2 : Int32)), .val (.ref a4), .val (.ref a5)] [(.int l1), (.int x1)])) (B := T178.setTop (mkF m 32 #[.val (.ref a1), .val (.int (1 : Int32)), .val (.int (2 : Int32)), .val (.ref a4), .val (.ref a5)] [])) (fun t k => ?_) ?_
    · show Steps p.tables e below (T178.setTop (mkF m 13 #[.val (.ref a1), .val (.int (1 : Int32)), .val (.int (2 : Int32)), .val (.ref a4), .val (.ref a5)] [(.int l1), (.int x1)])) _
      refine XS.icmpYes X178.here hx rfl (pc0 := 13) (pc' := 32) rfl (hb hby d5_13) rfl (feq hc13_180).2 (by decide) (by decide) ?_
      exact k
    refine own_go (A := T178.setTop (mkF m 32 #[.val (.ref a1), .val (.int (1 : Int32)), .val (.int (2 : Int32)), .val (.ref a4), .val (.ref a5)] [])) (B := T178.setTop (mkF m 33 #[.val (.ref a1), .val (.int (1 : Int32)), .val (.int (2 : Int32)), .val (.ref a4), .val (.ref a5)] [(.int (0 : Int32))])) (fun t k => ?_) ?_
    · show Steps p.tables e below (T178.setTop (mkF m 32 #[.val (.ref a1), .val (.int (1 : Int32)), .val (.int (2 : Int32)), .val (.ref a4), .val (.ref a5)] [])) _
      refine XS.iconst X178.here hx rfl (hb hby d5_32) ?_
      exact k
    obtain ⟨fs, hr, hrun, hended, hW, hsame⟩ := X178.leave (v := some (.int (0 : Int32))) (fun h => by rw [Bd.returns] at h; cases h)
    refine ⟨_, _, ?_, hrun, hended, _, _, rfl, ?_, ⟨_, rfl⟩, hW, hsame.mono (by decide) (by decide)⟩
    · show Steps p.tables e below (T178.setTop (mkF m 33 #[.val (.ref a1), .val (.int (1 : Int32)), .val (.int (2 : Int32)), .val (.ref a4), .val (.ref a5)] [(.int (0 : Int32))])) _
      exact retN X178 hx (t := .boolean) Bd.returns (by simp) (hb hby d5_33) hr
    · show Qrm5_1_2 Z a1 a4 a5 b1 b2 k1 k2 k3 k4 x0 x1 x2 x3 x4 x5 x6 x7 x8 x9 x10 x11 x12 x13 x14 x15 y0 y1 y2 y3 y4 y5 y6 y7 y8 y9 y10 y11 y12 y13 y14 y15 l0 l1 l2 m0 m1 m2 h0 n0 _ T178.heap _
      rw [e178]
      exact ⟨(by simp only [frm5_1_2, if_neg hc13_180]), N178, rfl⟩
def frm5_1_3 (x1 : Int32) (y1 : Int32) (l1 : Int32) (m1 : Int32) : Int32 := (if x1 = l1 then (if y1 = m1 then (1 : Int32) else (0 : Int32)) else (0 : Int32))
def Qrm5_1_3 (Z : State) (a1 : Addr) (a4 : Addr) (a5 : Addr) (b1 : Addr) (b2 : Addr) (k1 : ClassId) (k2 : ClassId) (k3 : ClassId) (k4 : ClassId) (x0 : Int32) (x1 : Int32) (x2 : Int32) (x3 : Int32) (x4 : Int32) (x5 : Int32) (x6 : Int32) (x7 : Int32) (x8 : Int32) (x9 : Int32) (x10 : Int32) (x11 : Int32) (x12 : Int32) (x13 : Int32) (x14 : Int32) (x15 : Int32) (y0 : Int32) (y1 : Int32) (y2 : Int32) (y3 : Int32) (y4 : Int32) (y5 : Int32) (y6 : Int32) (y7 : Int32) (y8 : Int32) (y9 : Int32) (y10 : Int32) (y11 : Int32) (y12 : Int32) (y13 : Int32) (y14 : Int32) (y15 : Int32) (l0 : Int32) (l1 : Int32) (l2 : Int32) (m0 : Int32) (m1 : Int32) (m2 : Int32) (h0 : Heap) (n0 : Nat) (v : Option Value) (h : Heap) (L : List Loc) : Prop := v = some (.int (frm5_1_3 x1 y1 l1 m1)) ∧ Fr n0 L ∧ h = h0
theorem efrm5_1_3 (m : MethodId) (x0 : Addr) (x3 : Addr) (x4 : Addr) : entryFrame m #[(.ref x0), (.int (1 : Int32)), (.int (3 : Int32)), (.ref x3), (.ref x4)] 5 = mkF m 0 #[.val (.ref x0), .val (.int (1 : Int32)), .val (.int (3 : Int32)), .val (.ref x3), .val (.ref x4)] [] := by first | (simp [entryFrame, mkF, argsToLocals, Value.category]; done) | rfl
set_option maxRecDepth 65536 in
set_option maxHeartbeats 40000000 in
theorem rm5_1_3 (l : Launch) (Z : State) (a0 : Array Value) (hw : ∀ d ∈ tables_1, d.before a0 Z = true) (ws : List Jvm.Cond) (a1 : Addr) (a4 : Addr) (a5 : Addr) (b1 : Addr) (b2 : Addr) (k1 : ClassId) (k2 : ClassId) (k3 : ClassId) (k4 : ClassId) (x0 : Int32) (x1 : Int32) (x2 : Int32) (x3 : Int32) (x4 : Int32) (x5 : Int32) (x6 : Int32) (x7 : Int32) (x8 : Int32) (x9 : Int32) (x10 : Int32) (x11 : Int32) (x12 : Int32) (x13 : Int32) (x14 : Int32) (x15 : Int32) (y0 : Int32) (y1 : Int32) (y2 : Int32) (y3 : Int32) (y4 : Int32) (y5 : Int32) (y6 : Int32) (y7 : Int32) (y8 : Int32) (y9 : Int32) (y10 : Int32) (y11 : Int32) (y12 : Int32) (y13 : Int32) (y14 : Int32) (y15 : Int32) (l0 : Int32) (l1 : Int32) (l2 : Int32) (m0 : Int32) (m1 : Int32) (m2 : Int32) (h0 : Heap) (n0 : Nat) (Z0 : n0 ≤ h0.size) (P0 : Exa Z h0 a1 "com/example/axiomwright/axiomwright/Arcs") (P1 : Fld Z h0 a1 "com/example/axiomwright/axiomwright/Arcs" "from" "[I" (.ref b1)) (P2 : Fld Z h0 a1 "com/example/axiomwright/axiomwright/Arcs" "to" "[I" (.ref b2)) (P3 : Arv Z h0 b1 k1 .int (16 : Int32) [(.int x0), (.int x1), (.int x2), (.int x3), (.int x4), (.int x5), (.int x6), (.int x7), (.int x8), (.int x9), (.int x10), (.int x11), (.int x12), (.int x13), (.int x14), (.int x15)] (.int (0 : Int32))) (P4 : Arv Z h0 b2 k2 .int (16 : Int32) [(.int y0), (.int y1), (.int y2), (.int y3), (.int y4), (.int y5), (.int y6), (.int y7), (.int y8), (.int y9), (.int y10), (.int y11), (.int y12), (.int y13), (.int y14), (.int y15)] (.int (0 : Int32))) (P5 : Arv Z h0 a4 k3 .int (3 : Int32) [(.int l0), (.int l1), (.int l2)] (.int (0 : Int32))) (P6 : Arv Z h0 a5 k4 .int (3 : Int32) [(.int m0), (.int m1), (.int m2)] (.int (0 : Int32))) :
    MetFree l (⟨"com/example/axiomwright/axiomwright/ArcsAddAllPinLaw", "at", "(Lcom/example/axiomwright/axiomwright/Arcs;II[I[I)Z"⟩ : MethodName) (head1 (Jvm.Cond.code (⟨"com/example/axiomwright/axiomwright/ArcsAddAllPinLaw", "at", "(Lcom/example/axiomwright/axiomwright/Arcs;II[I[I)Z"⟩ : MethodName) method_2_code 5 (some .boolean) :: ws) ({ frames := 1, cells := 0, slots := 0, locals := 13 } : Room)) (fun a U => a = #[(.ref a1), (.int (1 : Int32)), (.int (3 : Int32)), (.ref a4), (.ref a5)] ∧ Z.Warmed39 U.vm ∧ U.heap = h0) (fun _ _ _ _ _ => True) (fun _ U o U' => ∃ v L, o = .returned v ∧ Qrm5_1_3 Z a1 a4 a5 b1 b2 k1 k2 k3 k4 x0 x1 x2 x3 x4 x5 x6 x7 x8 x9 x10 x11 x12 x13 x14 x15 y0 y1 y2 y3 y4 y5 y6 y7 y8 y9 y10 y11 y12 y13 y14 y15 l0 l1 l2 m0 m1 m2 h0 n0 v U'.heap L ∧ FrameEnd U o U' L ({ frames := 1, cells := 0, slots := 0, locals := 13 } : Room).cells ({ frames := 1, cells := 0, slots := 0, locals := 13 } : Room).slots) := by
  refine MetFree.of_bodySF (plainFor_of_name pn_1) hisR ?_
  intro p e s m args below meth c s₁ Bd hml0 hP hK
  obtain ⟨rfl, hZ, hh⟩ := hP
  have hx := Bd.exec
  have hby := Bd.bytes
  have hml : c.maxLocals = 5 := hml0
  have hown : s.vm.findClass "com/example/axiomwright/axiomwright/ArcsAddAllPinLaw" = some m.cls := findClass_of_methodNamed Bd.named
  have hnm := (name_of_methodNamed Bd.named Bd.method).1
  have X0 : Stand p l e ({ frames := 1, cells := 0, slots := 0, locals := 13 } : Room) s m #[(.ref a1), (.int (1 : Int32)), (.int (3 : Int32)), (.ref a4), (.ref a5)] below meth c s₁ [] 0 0 := Stand.of_body Bd
  have e0 : s₁.heap = h0 := by rw [← hh, Bd.state]; rfl
  have N0 := Fr.nil n0
  have K0 : Keep h0 h0 [] := Keep.refl h0 _
  refine own_go (B := s₁.setTop (mkF m 0 #[.val (.ref a1), .val (.int (1 : Int32)), .val (.int (3 : Int32)), .val (.ref a4), .val (.ref a5)] [])) (fun t k => castTop (efrm5_1_3 m a1 a4 a5) k) ?_
  refine own_go (A := s₁.setTop (mkF m 0 #[.val (.ref a1), .val (.int (1 : Int32)), .val (.int (3 : Int32)), .val (.ref a4), .val (.ref a5)] [])) (B := s₁.setTop (mkF m 7 #[.val (.ref a1), .val (.int (1 : Int32)), .val (.int (3 : Int32)), .val (.ref a4), .val (.ref a5)] [(.int (1 : Int32)), (.ref a1)])) (fun t k => ?_) ?_
  · show Steps p.tables e below (s₁.setTop (mkF m 0 #[.val (.ref a1), .val (.int (1 : Int32)), .val (.int (3 : Int32)), .val (.ref a4), .val (.ref a5)] [])) _
    refine XS.iloadN X0.here hx rfl (hb hby d5_0) rfl ?_
    show Steps p.tables e below (s₁.setTop (mkF m 1 #[.val (.ref a1), .val (.int (1 : Int32)), .val (.int (3 : Int32)), .val (.ref a4), .val (.ref a5)] [(.int (1 : Int32))])) _
    refine XS.iloadN X0.here hx rfl (hb hby d5_1) rfl ?_
    show Steps p.tables e below (s₁.setTop (mkF m 2 #[.val (.ref a1), .val (.int (1 : Int32)), .val (.int (3 : Int32)), .val (.ref a4), .val (.ref a5)] [(.int (3 : Int32)), (.int (1 : Int32))])) _
    refine XS.icmpNo X0.here hx rfl (hb hby d5_2) rfl (tlt (by decide : ((1 : Int32) < (3 : Int32)))).2.1 ?_
    show Steps p.tables e below (s₁.setTop (mkF m 5 #[.val (.ref a1), .val (.int (1 : Int32)), .val (.int (3 : Int32)), .val (.ref a4), .val (.ref a5)] [])) _
    refine XS.aloadN X0.here hx rfl (hb hby d5_5) rfl rfl ?_
    show Steps p.tables e below (s₁.setTop (mkF m 6 #[.val (.ref a1), .val (.int (1 : Int32)), .val (.int (3 : Int32)), .val (.ref a4), .val (.ref a5)] [(.ref a1)])) _
    refine XS.iloadN X0.here hx rfl (hb hby d5_6) rfl ?_
    exact k
  obtain ⟨cq185, kq185, q185a, q185b, q185c⟩ := isOf hZ e0 P0
  obtain ⟨_, _, ⟨T185, L185, k185, n185⟩, -, X185, ⟨Lc185, hQ185, l185, y185, z185⟩, st185⟩ := X0.virtualBack hx (y := (⟨"com/example/axiomwright/axiomwright/Arcs", "tail", "(I)I"⟩ : MethodName)) (z := (⟨"com/example/axiomwright/axiomwright/Arcs", "tail", "(I)I"⟩ : MethodName)) hown (mvT hZ (hw _ (List.mem_of_getElem? (i := 36) rfl))) (mvT hZ (hw _ (List.mem_of_getElem? (i := 37) rfl))) (notFace_of_selects (args := #[]) (mvT hZ (hw _ (List.mem_of_getElem? (i := 39) rfl)))) (mvT hZ (hw _ (List.mem_of_getElem? (i := 39) rfl))) (mvT hZ (hw _ (List.mem_of_getElem? (i := 38) rfl))) (by decide) (backOf (W := 0) (rm7_1_16 l Z a0 hw [] a1 b1 k1 x0 x1 x2 x3 x4 x5 x6 x7 x8 x9 x10 x11 x12 x13 x14 x15 h0 n0 Z0 P1 P3) hZ (hw _ (List.mem_of_getElem? (i := 40) rfl)) (hw _ (List.mem_of_getElem? (i := 3) rfl)) (by decide) (by decide)) q185a q185c (g := (mkF m 7 #[.val (.ref a1), .val (.int (1 : Int32)), .val (.int (3 : Int32)), .val (.ref a4), .val (.ref a5)] [(.int (1 : Int32)), (.ref a1)])) rfl (by rw [hml]; rfl) (Steps.refl _) (argsL := [(.int (1 : Int32))]) (rest := []) (lenOf pd_1 rfl) rfl (by show 2 * 0 + _ ≤ _; exact Nat.le_of_eq rfl) (hb hby d5_7) (fun _ _ => ⟨rfl, e0, (by decide : 0 + 0 ≤ _), (by decide : 0 + 0 ≤ _)⟩)
  dsimp only [Pt.U, Pt.locs, Pt.cells, Pt.slots] at X185 l185 y185 z185 st185 hQ185
  subst l185 y185 z185
  obtain ⟨rfl, Nq185, e185⟩ := hQ185
  have N185 := Fr.app N0 Nq185
  refine own_go (A := _) (B := T185.setTop (mkF m 10 #[.val (.ref a1), .val (.int (1 : Int32)), .val (.int (3 : Int32)), .val (.ref a4), .val (.ref a5)] [(.int x1)])) (fun t k => st185.trans k) ?_
  refine own_go (A := T185.setTop (mkF m 10 #[.val (.ref a1), .val (.int (1 : Int32)), .val (.int (3 : Int32)), .val (.ref a4), .val (.ref a5)] [(.int x1)])) (B := T185.setTop (mkF m 12 #[.val (.ref a1), .val (.int (1 : Int32)), .val (.int (3 : Int32)), .val (.ref a4), .val (.ref a5)] [(.int (1 : Int32)), (.ref a4), (.int x1)])) (fun t k => ?_) ?_
  · show Steps p.tables e below (T185.setTop (mkF m 10 #[.val (.ref a1), .val (.int (1 : Int32)), .val (.int (3 : Int32)), .val (.ref a4), .val (.ref a5)] [(.int x1)])) _
    refine XS.aloadN X185.here hx rfl (hb hby d5_10) rfl rfl ?_
    show Steps p.tables e below (T185.setTop (mkF m 11 #[.val (.ref a1), .val (.int (1 : Int32)), .val (.int (3 : Int32)), .val (.ref a4), .val (.ref a5)] [(.ref a4), (.int x1)])) _
    refine XS.iloadN X185.here hx rfl (hb hby d5_11) rfl ?_
    exact k
  obtain ⟨cl186, Ar186, q186, S186, M186, Ha186, G186⟩ := id P5
  have hin186 : ¬ ((1 : Int32) < 0 ∨ cl186.slots.size ≤ ((1 : Int32)).toNatClampNeg) := inb_of S186 ⟨by decide, by decide⟩
  refine own_go (A := T185.setTop (mkF m 12 #[.val (.ref a1), .val (.int (1 : Int32)), .val (.int (3 : Int32)), .val (.ref a4), .val (.ref a5)] [(.int (1 : Int32)), (.ref a4), (.int x1)])) (X185.iaload hx (j := (1 : Int32)) (v := (.int l1)) (by rw [e185]; exact Ar186.1) (State.isArrayOf_alike hZ.alike Ar186.2.1) Ar186.2.2 hin186 (Has.at Ha186 hin186 rfl) (g := (mkF m 12 #[.val (.ref a1), .val (.int (1 : Int32)), .val (.int (3 : Int32)), .val (.ref a4), .val (.ref a5)] [(.int (1 : Int32)), (.ref a4), (.int x1)])) rfl rfl (hb hby d5_12)) ?_
  by_cases hc13_187 : x1 = l1
  · refine own_go (A := T185.setTop (mkF m 13 #[.val (.ref a1), .val (.int (1 : Int32)), .val (.int (3 : Int32)), .val (.ref a4), .val (.ref a5)] [(.int l1), (.int x1)])) (B := T185.setTop (mkF m 16 #[.val (.ref a1), .val (.int (1 : Int32)), .val (.int (3 : Int32)), .val (.ref a4), .val (.ref a5)] [])) (fun t k => ?_) ?_
    · show Steps p.tables e below (T185.setTop (mkF m 13 #[.val (.ref a1), .val (.int (1 : Int32)), .val (.int (3 : Int32)), .val (.ref a4), .val (.ref a5)] [(.int l1), (.int x1)])) _
      refine XS.icmpNo X185.here hx rfl (hb hby d5_13) rfl (teq hc13_187).2 ?_
      exact k
    refine own_go (A := T185.setTop (mkF m 16 #[.val (.ref a1), .val (.int (1 : Int32)), .val (.int (3 : Int32)), .val (.ref a4), .val (.ref a5)] [])) (B := T185.setTop (mkF m 18 #[.val (.ref a1), .val (.int (1 : Int32)), .val (.int (3 : Int32)), .val (.ref a4), .val (.ref a5)] [(.int (1 : Int32)), (.ref a1)])) (fun t k => ?_) ?_
    · show Steps p.tables e below (T185.setTop (mkF m 16 #[.val (.ref a1), .val (.int (1 : Int32)), .val (.int (3 : Int32)), .val (.ref a4), .val (.ref a5)] [])) _
      refine XS.aloadN X185.here hx rfl (hb hby d5_16) rfl rfl ?_
      show Steps p.tables e below (T185.setTop (mkF m 17 #[.val (.ref a1), .val (.int (1 : Int32)), .val (.int (3 : Int32)), .val (.ref a4), .val (.ref a5)] [(.ref a1)])) _
      refine XS.iloadN X185.here hx rfl (hb hby d5_17) rfl ?_
      exact k
    obtain ⟨cq188, kq188, q188a, q188b, q188c⟩ := isOf hZ e185 P0
    obtain ⟨_, _, ⟨T188, L188, k188, n188⟩, -, X188, ⟨Lc188, hQ188, l188, y188, z188⟩, st188⟩ := X185.virtualBack hx (y := (⟨"com/example/axiomwright/axiomwright/Arcs", "head", "(I)I"⟩ : MethodName)) (z := (⟨"com/example/axiomwright/axiomwright/Arcs", "head", "(I)I"⟩ : MethodName)) hown (mvT hZ (hw _ (List.mem_of_getElem? (i := 41) rfl))) (mvT hZ (hw _ (List.mem_of_getElem? (i := 42) rfl))) (notFace_of_selects (args := #[]) (mvT hZ (hw _ (List.mem_of_getElem? (i := 44) rfl)))) (mvT hZ (hw _ (List.mem_of_getElem? (i := 44) rfl))) (mvT hZ (hw _ (List.mem_of_getElem? (i := 43) rfl))) (by decide) (backOf (W := 0) (rm8_1_16 l Z a0 hw [] a1 b2 k2 y0 y1 y2 y3 y4 y5 y6 y7 y8 y9 y10 y11 y12 y13 y14 y15 h0 n0 Z0 P2 P4) hZ (hw _ (List.mem_of_getElem? (i := 45) rfl)) (hw _ (List.mem_of_getElem? (i := 3) rfl)) (by decide) (by decide)) q188a q188c (g := (mkF m 18 #[.val (.ref a1), .val (.int (1 : Int32)), .val (.int (3 : Int32)), .val (.ref a4), .val (.ref a5)] [(.int (1 : Int32)), (.ref a1)])) rfl (by rw [hml]; rfl) (Steps.refl _) (argsL := [(.int (1 : Int32))]) (rest := []) (lenOf pd_1 rfl) rfl (by show 2 * 0 + _ ≤ _; exact Nat.le_of_eq rfl) (hb hby d5_18) (fun _ _ => ⟨rfl, e185, (by decide : 0 + 0 ≤ _), (by decide : 0 + 0 ≤ _)⟩)
    dsimp only [Pt.U, Pt.locs, Pt.cells, Pt.slots] at X188 l188 y188 z188 st188 hQ188
    subst l188 y188 z188
    obtain ⟨rfl, Nq188, e188⟩ := hQ188
    have N188 := Fr.app N185 Nq188
    refine own_go (A := _) (B := T188.setTop (mkF m 21 #[.val (.ref a1), .val (.int (1 : Int32)), .val (.int (3 : Int32)), .val (.ref a4), .val (.ref a5)] [(.int y1)])) (fun t k => st188.trans k) ?_
    refine own_go (A := T188.setTop (mkF m 21 #[.val (.ref a1), .val (.int (1 : Int32)), .val (.int (3 : Int32)), .val (.ref a4), .val (.ref a5)] [(.int y1)])) (B := T188.setTop (mkF m 24 #[.val (.ref a1), .val (.int (1 : Int32)), .val (.int (3 : Int32)), .val (.ref a4), .val (.ref a5)] [(.int (1 : Int32)), (.ref a5), (.int y1)])) (fun t k => ?_) ?_
    · show Steps p.tables e below (T188.setTop (mkF m 21 #[.val (.ref a1), .val (.int (1 : Int32)), .val (.int (3 : Int32)), .val (.ref a4), .val (.ref a5)] [(.int y1)])) _
      refine XS.aload X188.here hx rfl (hb hby d5_21) rfl rfl ?_
      show Steps p.tables e below (T188.setTop (mkF m 23 #[.val (.ref a1), .val (.int (1 : Int32)), .val (.int (3 : Int32)), .val (.ref a4), .val (.ref a5)] [(.ref a5), (.int y1)])) _
      refine XS.iloadN X188.here hx rfl (hb hby d5_23) rfl ?_
      exact k
    obtain ⟨cl189, Ar189, q189, S189, M189, Ha189, G189⟩ := id P6
    have hin189 : ¬ ((1 : Int32) < 0 ∨ cl189.slots.size ≤ ((1 : Int32)).toNatClampNeg) := inb_of S189 ⟨by decide, by decide⟩
    refine own_go (A := T188.setTop (mkF m 24 #[.val (.ref a1), .val (.int (1 : Int32)), .val (.int (3 : Int32)), .val (.ref a4), .val (.ref a5)] [(.int (1 : Int32)), (.ref a5), (.int y1)])) (X188.iaload hx (j := (1 : Int32)) (v := (.int m1)) (by rw [e188]; exact Ar189.1) (State.isArrayOf_alike hZ.alike Ar189.2.1) Ar189.2.2 hin189 (Has.at Ha189 hin189 rfl) (g := (mkF m 24 #[.val (.ref a1), .val (.int (1 : Int32)), .val (.int (3 : Int32)), .val (.ref a4), .val (.ref a5)] [(.int (1 : Int32)), (.ref a5), (.int y1)])) rfl rfl (hb hby d5_24)) ?_
    by_cases hc25_190 : y1 = m1
    · refine own_go (A := T188.setTop (mkF m 25 #[.val (.ref a1), .val (.int (1 : Int32)), .val (.int (3 : Int32)), .val (.ref a4), .val (.ref a5)] [(.int m1), (.int y1)])) (B := T188.setTop (mkF m 28 #[.val (.ref a1), .val (.int (1 : Int32)), .val (.int (3 : Int32)), .val (.ref a4), .val (.ref a5)] [])) (fun t k => ?_) ?_
      · show Steps p.tables e below (T188.setTop (mkF m 25 #[.val (.ref a1), .val (.int (1 : Int32)), .val (.int (3 : Int32)), .val (.ref a4), .val (.ref a5)] [(.int m1), (.int y1)])) _
        refine XS.icmpNo X188.here hx rfl (hb hby d5_25) rfl (teq hc25_190).2 ?_
        exact k
      refine own_go (A := T188.setTop (mkF m 28 #[.val (.ref a1), .val (.int (1 : Int32)), .val (.int (3 : Int32)), .val (.ref a4), .val (.ref a5)] [])) (B := T188.setTop (mkF m 33 #[.val (.ref a1), .val (.int (1 : Int32)), .val (.int (3 : Int32)), .val (.ref a4), .val (.ref a5)] [(.int (1 : Int32))])) (fun t k => ?_) ?_
      · show Steps p.tables e below (T188.setTop (mkF m 28 #[.val (.ref a1), .val (.int (1 : Int32)), .val (.int (3 : Int32)), .val (.ref a4), .val (.ref a5)] [])) _
        refine XS.iconst X188.here hx rfl (hb hby d5_28) ?_
        show Steps p.tables e below (T188.setTop (mkF m 29 #[.val (.ref a1), .val (.int (1 : Int32)), .val (.int (3 : Int32)), .val (.ref a4), .val (.ref a5)] [(.int (1 : Int32))])) _
        refine XS.goto X188.here hx rfl (pc0 := 29) (pc' := 33) rfl (hb hby d5_29) (by decide) (by decide) ?_
        exact k
      obtain ⟨fs, hr, hrun, hended, hW, hsame⟩ := X188.leave (v := some (.int (1 : Int32))) (fun h => by rw [Bd.returns] at h; cases h)
      refine ⟨_, _, ?_, hrun, hended, _, _, rfl, ?_, ⟨_, rfl⟩, hW, hsame.mono (by decide) (by decide)⟩
      · show Steps p.tables e below (T188.setTop (mkF m 33 #[.val (.ref a1), .val (.int (1 : Int32)), .val (.int (3 : Int32)), .val (.ref a4), .val (.ref a5)] [(.int (1 : Int32))])) _
        exact retN X188 hx (t := .boolean) Bd.returns (by simp) (hb hby d5_33) hr
      · show Qrm5_1_3 Z a1 a4 a5 b1 b2 k1 k2 k3 k4 x0 x1 x2 x3 x4 x5 x6 x7 x8 x9 x10 x11 x12 x13 x14 x15 y0 y1 y2 y3 y4 y5 y6 y7 y8 y9 y10 y11 y12 y13 y14 y15 l0 l1 l2 m0 m1 m2 h0 n0 _ T188.heap _
        rw [e188]
        exact ⟨(by simp only [frm5_1_3, if_pos hc13_187, if_pos hc25_190]), N188, rfl⟩
    · refine own_go (A := T188.setTop (mkF m 25 #[.val (.ref a1), .val (.int (1 : Int32)), .val (.int (3 : Int32)), .val (.ref a4), .val (.ref a5)] [(.int m1), (.int y1)])) (B := T188.setTop (mkF m 32 #[.val (.ref a1), .val (.int (1 : Int32)), .val (.int (3 : Int32)), .val (.ref a4), .val (.ref a5)] [])) (fun t k => ?_) ?_
      · show Steps p.tables e below (T188.setTop (mkF m 25 #[.val (.ref a1), .val (.int (1 : Int32)), .val (.int (3 : Int32)), .val (.ref a4), .val (.ref a5)] [(.int m1), (.int y1)])) _
        refine XS.icmpYes X188.here hx rfl (pc0 := 25) (pc' := 32) rfl (hb hby d5_25) rfl (feq hc25_190).2 (by decide) (by decide) ?_
        exact k
      refine own_go (A := T188.setTop (mkF m 32 #[.val (.ref a1), .val (.int (1 : Int32)), .val (.int (3 : Int32)), .val (.ref a4), .val (.ref a5)] [])) (B := T188.setTop (mkF m 33 #[.val (.ref a1), .val (.int (1 : Int32)), .val (.int (3 : Int32)), .val (.ref a4), .val (.ref a5)] [(.int (0 : Int32))])) (fun t k => ?_) ?_
      · show Steps p.tables e below (T188.setTop (mkF m 32 #[.val (.ref a1), .val (.int (1 : Int32)), .val (.int (3 : Int32)), .val (.ref a4), .val (.ref a5)] [])) _
        refine XS.iconst X188.here hx rfl (hb hby d5_32) ?_
        exact k
      obtain ⟨fs, hr, hrun, hended, hW, hsame⟩ := X188.leave (v := some (.int (0 : Int32))) (fun h => by rw [Bd.returns] at h; cases h)
      refine ⟨_, _, ?_, hrun, hended, _, _, rfl, ?_, ⟨_, rfl⟩, hW, hsame.mono (by decide) (by decide)⟩
      · show Steps p.tables e below (T188.setTop (mkF m 33 #[.val (.ref a1), .val (.int (1 : Int32)), .val (.int (3 : Int32)), .val (.ref a4), .val (.ref a5)] [(.int (0 : Int32))])) _
        exact retN X188 hx (t := .boolean) Bd.returns (by simp) (hb hby d5_33) hr
      · show Qrm5_1_3 Z a1 a4 a5 b1 b2 k1 k2 k3 k4 x0 x1 x2 x3 x4 x5 x6 x7 x8 x9 x10 x11 x12 x13 x14 x15 y0 y1 y2 y3 y4 y5 y6 y7 y8 y9 y10 y11 y12 y13 y14 y15 l0 l1 l2 m0 m1 m2 h0 n0 _ T188.heap _
        rw [e188]
        exact ⟨(by simp only [frm5_1_3, if_pos hc13_187, if_neg hc25_190]), N188, rfl⟩
  · refine own_go (A := T185.setTop (mkF m 13 #[.val (.ref a1), .val (.int (1 : Int32)), .val (.int (3 : Int32)), .val (.ref a4), .val (.ref a5)] [(.int l1), (.int x1)])) (B := T185.setTop (mkF m 32 #[.val (.ref a1), .val (.int (1 : Int32)), .val (.int (3 : Int32)), .val (.ref a4), .val (.ref a5)] [])) (fun t k => ?_) ?_
    · show Steps p.tables e below (T185.setTop (mkF m 13 #[.val (.ref a1), .val (.int (1 : Int32)), .val (.int (3 : Int32)), .val (.ref a4), .val (.ref a5)] [(.int l1), (.int x1)])) _
      refine XS.icmpYes X185.here hx rfl (pc0 := 13) (pc' := 32) rfl (hb hby d5_13) rfl (feq hc13_187).2 (by decide) (by decide) ?_
      exact k
    refine own_go (A := T185.setTop (mkF m 32 #[.val (.ref a1), .val (.int (1 : Int32)), .val (.int (3 : Int32)), .val (.ref a4), .val (.ref a5)] [])) (B := T185.setTop (mkF m 33 #[.val (.ref a1), .val (.int (1 : Int32)), .val (.int (3 : Int32)), .val (.ref a4), .val (.ref a5)] [(.int (0 : Int32))])) (fun t k => ?_) ?_
    · show Steps p.tables e below (T185.setTop (mkF m 32 #[.val (.ref a1), .val (.int (1 : Int32)), .val (.int (3 : Int32)), .val (.ref a4), .val (.ref a5)] [])) _
      refine XS.iconst X185.here hx rfl (hb hby d5_32) ?_
      exact k
    obtain ⟨fs, hr, hrun, hended, hW, hsame⟩ := X185.leave (v := some (.int (0 : Int32))) (fun h => by rw [Bd.returns] at h; cases h)
    refine ⟨_, _, ?_, hrun, hended, _, _, rfl, ?_, ⟨_, rfl⟩, hW, hsame.mono (by decide) (by decide)⟩
    · show Steps p.tables e below (T185.setTop (mkF m 33 #[.val (.ref a1), .val (.int (1 : Int32)), .val (.int (3 : Int32)), .val (.ref a4), .val (.ref a5)] [(.int (0 : Int32))])) _
      exact retN X185 hx (t := .boolean) Bd.returns (by simp) (hb hby d5_33) hr
    · show Qrm5_1_3 Z a1 a4 a5 b1 b2 k1 k2 k3 k4 x0 x1 x2 x3 x4 x5 x6 x7 x8 x9 x10 x11 x12 x13 x14 x15 y0 y1 y2 y3 y4 y5 y6 y7 y8 y9 y10 y11 y12 y13 y14 y15 l0 l1 l2 m0 m1 m2 h0 n0 _ T185.heap _
      rw [e185]
      exact ⟨(by simp only [frm5_1_3, if_neg hc13_187]), N185, rfl⟩
def Qrm5_2_0 (Z : State) (a1 : Addr) (a4 : Addr) (a5 : Addr) (h0 : Heap) (n0 : Nat) (v : Option Value) (h : Heap) (L : List Loc) : Prop := v = some (.int (1 : Int32)) ∧ Fr n0 L ∧ h = h0
theorem efrm5_2_0 (m : MethodId) (x0 : Addr) (x3 : Addr) (x4 : Addr) : entryFrame m #[(.ref x0), (.int (2 : Int32)), (.int (0 : Int32)), (.ref x3), (.ref x4)] 5 = mkF m 0 #[.val (.ref x0), .val (.int (2 : Int32)), .val (.int (0 : Int32)), .val (.ref x3), .val (.ref x4)] [] := by first | (simp [entryFrame, mkF, argsToLocals, Value.category]; done) | rfl
set_option maxRecDepth 65536 in
set_option maxHeartbeats 40000000 in
theorem rm5_2_0 (l : Launch) (Z : State) (a0 : Array Value) (hw : ∀ d ∈ tables_1, d.before a0 Z = true) (ws : List Jvm.Cond) (a1 : Addr) (a4 : Addr) (a5 : Addr) (h0 : Heap) (n0 : Nat) (Z0 : n0 ≤ h0.size)  :
    MetFree l (⟨"com/example/axiomwright/axiomwright/ArcsAddAllPinLaw", "at", "(Lcom/example/axiomwright/axiomwright/Arcs;II[I[I)Z"⟩ : MethodName) (head1 (Jvm.Cond.code (⟨"com/example/axiomwright/axiomwright/ArcsAddAllPinLaw", "at", "(Lcom/example/axiomwright/axiomwright/Arcs;II[I[I)Z"⟩ : MethodName) method_2_code 5 (some .boolean) :: ws) ({ frames := 0, cells := 0, slots := 0, locals := 0 } : Room)) (fun a U => a = #[(.ref a1), (.int (2 : Int32)), (.int (0 : Int32)), (.ref a4), (.ref a5)] ∧ Z.Warmed39 U.vm ∧ U.heap = h0) (fun _ _ _ _ _ => True) (fun _ U o U' => ∃ v L, o = .returned v ∧ Qrm5_2_0 Z a1 a4 a5 h0 n0 v U'.heap L ∧ FrameEnd U o U' L ({ frames := 0, cells := 0, slots := 0, locals := 0 } : Room).cells ({ frames := 0, cells := 0, slots := 0, locals := 0 } : Room).slots) := by
  refine MetFree.of_bodySF (plainFor_of_name pn_1) hisR ?_
  intro p e s m args below meth c s₁ Bd hml0 hP hK
  obtain ⟨rfl, hZ, hh⟩ := hP
  have hx := Bd.exec
  have hby := Bd.bytes
  have hml : c.maxLocals = 5 := hml0
  have hown : s.vm.findClass "com/example/axiomwright/axiomwright/ArcsAddAllPinLaw" = some m.cls := findClass_of_methodNamed Bd.named
  have hnm := (name_of_methodNamed Bd.named Bd.method).1
  have X0 : Stand p l e ({ frames := 0, cells := 0, slots := 0, locals := 0 } : Room) s m #[(.ref a1), (.int (2 : Int32)), (.int (0 : Int32)), (.ref a4), (.ref a5)] below meth c s₁ [] 0 0 := Stand.of_body Bd
  have e0 : s₁.heap = h0 := by rw [← hh, Bd.state]; rfl
  have N0 := Fr.nil n0
  have K0 : Keep h0 h0 [] := Keep.refl h0 _
  refine own_go (B := s₁.setTop (mkF m 0 #[.val (.ref a1), .val (.int (2 : Int32)), .val (.int (0 : Int32)), .val (.ref a4), .val (.ref a5)] [])) (fun t k => castTop (efrm5_2_0 m a1 a4 a5) k) ?_
  refine own_go (A := s₁.setTop (mkF m 0 #[.val (.ref a1), .val (.int (2 : Int32)), .val (.int (0 : Int32)), .val (.ref a4), .val (.ref a5)] [])) (B := s₁.setTop (mkF m 33 #[.val (.ref a1), .val (.int (2 : Int32)), .val (.int (0 : Int32)), .val (.ref a4), .val (.ref a5)] [(.int (1 : Int32))])) (fun t k => ?_) ?_
  · show Steps p.tables e below (s₁.setTop (mkF m 0 #[.val (.ref a1), .val (.int (2 : Int32)), .val (.int (0 : Int32)), .val (.ref a4), .val (.ref a5)] [])) _
    refine XS.iloadN X0.here hx rfl (hb hby d5_0) rfl ?_
    show Steps p.tables e below (s₁.setTop (mkF m 1 #[.val (.ref a1), .val (.int (2 : Int32)), .val (.int (0 : Int32)), .val (.ref a4), .val (.ref a5)] [(.int (2 : Int32))])) _
    refine XS.iloadN X0.here hx rfl (hb hby d5_1) rfl ?_
    show Steps p.tables e below (s₁.setTop (mkF m 2 #[.val (.ref a1), .val (.int (2 : Int32)), .val (.int (0 : Int32)), .val (.ref a4), .val (.ref a5)] [(.int (0 : Int32)), (.int (2 : Int32))])) _
    refine XS.icmpYes X0.here hx rfl (pc0 := 2) (pc' := 28) rfl (hb hby d5_2) rfl (flt (by decide : ¬ ((2 : Int32) < (0 : Int32)))).2.1 (by decide) (by decide) ?_
    show Steps p.tables e below (s₁.setTop (mkF m 28 #[.val (.ref a1), .val (.int (2 : Int32)), .val (.int (0 : Int32)), .val (.ref a4), .val (.ref a5)] [])) _
    refine XS.iconst X0.here hx rfl (hb hby d5_28) ?_
    show Steps p.tables e below (s₁.setTop (mkF m 29 #[.val (.ref a1), .val (.int (2 : Int32)), .val (.int (0 : Int32)), .val (.ref a4), .val (.ref a5)] [(.int (1 : Int32))])) _
    refine XS.goto X0.here hx rfl (pc0 := 29) (pc' := 33) rfl (hb hby d5_29) (by decide) (by decide) ?_
    exact k
  obtain ⟨fs, hr, hrun, hended, hW, hsame⟩ := X0.leave (v := some (.int (1 : Int32))) (fun h => by rw [Bd.returns] at h; cases h)
  refine ⟨_, _, ?_, hrun, hended, _, _, rfl, ?_, ⟨_, rfl⟩, hW, hsame.mono (by decide) (by decide)⟩
  · show Steps p.tables e below (s₁.setTop (mkF m 33 #[.val (.ref a1), .val (.int (2 : Int32)), .val (.int (0 : Int32)), .val (.ref a4), .val (.ref a5)] [(.int (1 : Int32))])) _
    exact retN X0 hx (t := .boolean) Bd.returns (by simp) (hb hby d5_33) hr
  · show Qrm5_2_0 Z a1 a4 a5 h0 n0 _ s₁.heap _
    rw [e0]
    exact ⟨rfl, N0, rfl⟩
def Qrm5_2_1 (Z : State) (a1 : Addr) (a4 : Addr) (a5 : Addr) (h0 : Heap) (n0 : Nat) (v : Option Value) (h : Heap) (L : List Loc) : Prop := v = some (.int (1 : Int32)) ∧ Fr n0 L ∧ h = h0
theorem efrm5_2_1 (m : MethodId) (x0 : Addr) (x3 : Addr) (x4 : Addr) : entryFrame m #[(.ref x0), (.int (2 : Int32)), (.int (1 : Int32)), (.ref x3), (.ref x4)] 5 = mkF m 0 #[.val (.ref x0), .val (.int (2 : Int32)), .val (.int (1 : Int32)), .val (.ref x3), .val (.ref x4)] [] := by first | (simp [entryFrame, mkF, argsToLocals, Value.category]; done) | rfl
set_option maxRecDepth 65536 in
set_option maxHeartbeats 40000000 in
theorem rm5_2_1 (l : Launch) (Z : State) (a0 : Array Value) (hw : ∀ d ∈ tables_1, d.before a0 Z = true) (ws : List Jvm.Cond) (a1 : Addr) (a4 : Addr) (a5 : Addr) (h0 : Heap) (n0 : Nat) (Z0 : n0 ≤ h0.size)  :
    MetFree l (⟨"com/example/axiomwright/axiomwright/ArcsAddAllPinLaw", "at", "(Lcom/example/axiomwright/axiomwright/Arcs;II[I[I)Z"⟩ : MethodName) (head1 (Jvm.Cond.code (⟨"com/example/axiomwright/axiomwright/ArcsAddAllPinLaw", "at", "(Lcom/example/axiomwright/axiomwright/Arcs;II[I[I)Z"⟩ : MethodName) method_2_code 5 (some .boolean) :: ws) ({ frames := 0, cells := 0, slots := 0, locals := 0 } : Room)) (fun a U => a = #[(.ref a1), (.int (2 : Int32)), (.int (1 : Int32)), (.ref a4), (.ref a5)] ∧ Z.Warmed39 U.vm ∧ U.heap = h0) (fun _ _ _ _ _ => True) (fun _ U o U' => ∃ v L, o = .returned v ∧ Qrm5_2_1 Z a1 a4 a5 h0 n0 v U'.heap L ∧ FrameEnd U o U' L ({ frames := 0, cells := 0, slots := 0, locals := 0 } : Room).cells ({ frames := 0, cells := 0, slots := 0, locals := 0 } : Room).slots) := by
  refine MetFree.of_bodySF (plainFor_of_name pn_1) hisR ?_
  intro p e s m args below meth c s₁ Bd hml0 hP hK
  obtain ⟨rfl, hZ, hh⟩ := hP
  have hx := Bd.exec
  have hby := Bd.bytes
  have hml : c.maxLocals = 5 := hml0
  have hown : s.vm.findClass "com/example/axiomwright/axiomwright/ArcsAddAllPinLaw" = some m.cls := findClass_of_methodNamed Bd.named
  have hnm := (name_of_methodNamed Bd.named Bd.method).1
  have X0 : Stand p l e ({ frames := 0, cells := 0, slots := 0, locals := 0 } : Room) s m #[(.ref a1), (.int (2 : Int32)), (.int (1 : Int32)), (.ref a4), (.ref a5)] below meth c s₁ [] 0 0 := Stand.of_body Bd
  have e0 : s₁.heap = h0 := by rw [← hh, Bd.state]; rfl
  have N0 := Fr.nil n0
  have K0 : Keep h0 h0 [] := Keep.refl h0 _
  refine own_go (B := s₁.setTop (mkF m 0 #[.val (.ref a1), .val (.int (2 : Int32)), .val (.int (1 : Int32)), .val (.ref a4), .val (.ref a5)] [])) (fun t k => castTop (efrm5_2_1 m a1 a4 a5) k) ?_
  refine own_go (A := s₁.setTop (mkF m 0 #[.val (.ref a1), .val (.int (2 : Int32)), .val (.int (1 : Int32)), .val (.ref a4), .val (.ref a5)] [])) (B := s₁.setTop (mkF m 33 #[.val (.ref a1), .val (.int (2 : Int32)), .val (.int (1 : Int32)), .val (.ref a4), .val (.ref a5)] [(.int (1 : Int32))])) (fun t k => ?_) ?_
  · show Steps p.tables e below (s₁.setTop (mkF m 0 #[.val (.ref a1), .val (.int (2 : Int32)), .val (.int (1 : Int32)), .val (.ref a4), .val (.ref a5)] [])) _
    refine XS.iloadN X0.here hx rfl (hb hby d5_0) rfl ?_
    show Steps p.tables e below (s₁.setTop (mkF m 1 #[.val (.ref a1), .val (.int (2 : Int32)), .val (.int (1 : Int32)), .val (.ref a4), .val (.ref a5)] [(.int (2 : Int32))])) _
    refine XS.iloadN X0.here hx rfl (hb hby d5_1) rfl ?_
    show Steps p.tables e below (s₁.setTop (mkF m 2 #[.val (.ref a1), .val (.int (2 : Int32)), .val (.int (1 : Int32)), .val (.ref a4), .val (.ref a5)] [(.int (1 : Int32)), (.int (2 : Int32))])) _
    refine XS.icmpYes X0.here hx rfl (pc0 := 2) (pc' := 28) rfl (hb hby d5_2) rfl (flt (by decide : ¬ ((2 : Int32) < (1 : Int32)))).2.1 (by decide) (by decide) ?_
    show Steps p.tables e below (s₁.setTop (mkF m 28 #[.val (.ref a1), .val (.int (2 : Int32)), .val (.int (1 : Int32)), .val (.ref a4), .val (.ref a5)] [])) _
    refine XS.iconst X0.here hx rfl (hb hby d5_28) ?_
    show Steps p.tables e below (s₁.setTop (mkF m 29 #[.val (.ref a1), .val (.int (2 : Int32)), .val (.int (1 : Int32)), .val (.ref a4), .val (.ref a5)] [(.int (1 : Int32))])) _
    refine XS.goto X0.here hx rfl (pc0 := 29) (pc' := 33) rfl (hb hby d5_29) (by decide) (by decide) ?_
    exact k
  obtain ⟨fs, hr, hrun, hended, hW, hsame⟩ := X0.leave (v := some (.int (1 : Int32))) (fun h => by rw [Bd.returns] at h; cases h)
  refine ⟨_, _, ?_, hrun, hended, _, _, rfl, ?_, ⟨_, rfl⟩, hW, hsame.mono (by decide) (by decide)⟩
  · show Steps p.tables e below (s₁.setTop (mkF m 33 #[.val (.ref a1), .val (.int (2 : Int32)), .val (.int (1 : Int32)), .val (.ref a4), .val (.ref a5)] [(.int (1 : Int32))])) _
    exact retN X0 hx (t := .boolean) Bd.returns (by simp) (hb hby d5_33) hr
  · show Qrm5_2_1 Z a1 a4 a5 h0 n0 _ s₁.heap _
    rw [e0]
    exact ⟨rfl, N0, rfl⟩
def Qrm5_2_2 (Z : State) (a1 : Addr) (a4 : Addr) (a5 : Addr) (h0 : Heap) (n0 : Nat) (v : Option Value) (h : Heap) (L : List Loc) : Prop := v = some (.int (1 : Int32)) ∧ Fr n0 L ∧ h = h0
theorem efrm5_2_2 (m : MethodId) (x0 : Addr) (x3 : Addr) (x4 : Addr) : entryFrame m #[(.ref x0), (.int (2 : Int32)), (.int (2 : Int32)), (.ref x3), (.ref x4)] 5 = mkF m 0 #[.val (.ref x0), .val (.int (2 : Int32)), .val (.int (2 : Int32)), .val (.ref x3), .val (.ref x4)] [] := by first | (simp [entryFrame, mkF, argsToLocals, Value.category]; done) | rfl
set_option maxRecDepth 65536 in
set_option maxHeartbeats 40000000 in
theorem rm5_2_2 (l : Launch) (Z : State) (a0 : Array Value) (hw : ∀ d ∈ tables_1, d.before a0 Z = true) (ws : List Jvm.Cond) (a1 : Addr) (a4 : Addr) (a5 : Addr) (h0 : Heap) (n0 : Nat) (Z0 : n0 ≤ h0.size)  :
    MetFree l (⟨"com/example/axiomwright/axiomwright/ArcsAddAllPinLaw", "at", "(Lcom/example/axiomwright/axiomwright/Arcs;II[I[I)Z"⟩ : MethodName) (head1 (Jvm.Cond.code (⟨"com/example/axiomwright/axiomwright/ArcsAddAllPinLaw", "at", "(Lcom/example/axiomwright/axiomwright/Arcs;II[I[I)Z"⟩ : MethodName) method_2_code 5 (some .boolean) :: ws) ({ frames := 0, cells := 0, slots := 0, locals := 0 } : Room)) (fun a U => a = #[(.ref a1), (.int (2 : Int32)), (.int (2 : Int32)), (.ref a4), (.ref a5)] ∧ Z.Warmed39 U.vm ∧ U.heap = h0) (fun _ _ _ _ _ => True) (fun _ U o U' => ∃ v L, o = .returned v ∧ Qrm5_2_2 Z a1 a4 a5 h0 n0 v U'.heap L ∧ FrameEnd U o U' L ({ frames := 0, cells := 0, slots := 0, locals := 0 } : Room).cells ({ frames := 0, cells := 0, slots := 0, locals := 0 } : Room).slots) := by
  refine MetFree.of_bodySF (plainFor_of_name pn_1) hisR ?_
  intro p e s m args below meth c s₁ Bd hml0 hP hK
  obtain ⟨rfl, hZ, hh⟩ := hP
  have hx := Bd.exec
  have hby := Bd.bytes
  have hml : c.maxLocals = 5 := hml0
  have hown : s.vm.findClass "com/example/axiomwright/axiomwright/ArcsAddAllPinLaw" = some m.cls := findClass_of_methodNamed Bd.named
  have hnm := (name_of_methodNamed Bd.named Bd.method).1
  have X0 : Stand p l e ({ frames := 0, cells := 0, slots := 0, locals := 0 } : Room) s m #[(.ref a1), (.int (2 : Int32)), (.int (2 : Int32)), (.ref a4), (.ref a5)] below meth c s₁ [] 0 0 := Stand.of_body Bd
  have e0 : s₁.heap = h0 := by rw [← hh, Bd.state]; rfl
  have N0 := Fr.nil n0
  have K0 : Keep h0 h0 [] := Keep.refl h0 _
  refine own_go (B := s₁.setTop (mkF m 0 #[.val (.ref a1), .val (.int (2 : Int32)), .val (.int (2 : Int32)), .val (.ref a4), .val (.ref a5)] [])) (fun t k => castTop (efrm5_2_2 m a1 a4 a5) k) ?_
  refine own_go (A := s₁.setTop (mkF m 0 #[.val (.ref a1), .val (.int (2 : Int32)), .val (.int (2 : Int32)), .val (.ref a4), .val (.ref a5)] [])) (B := s₁.setTop (mkF m 33 #[.val (.ref a1), .val (.int (2 : Int32)), .val (.int (2 : Int32)), .val (.ref a4), .val (.ref a5)] [(.int (1 : Int32))])) (fun t k => ?_) ?_
  · show Steps p.tables e below (s₁.setTop (mkF m 0 #[.val (.ref a1), .val (.int (2 : Int32)), .val (.int (2 : Int32)), .val (.ref a4), .val (.ref a5)] [])) _
    refine XS.iloadN X0.here hx rfl (hb hby d5_0) rfl ?_
    show Steps p.tables e below (s₁.setTop (mkF m 1 #[.val (.ref a1), .val (.int (2 : Int32)), .val (.int (2 : Int32)), .val (.ref a4), .val (.ref a5)] [(.int (2 : Int32))])) _
    refine XS.iloadN X0.here hx rfl (hb hby d5_1) rfl ?_
    show Steps p.tables e below (s₁.setTop (mkF m 2 #[.val (.ref a1), .val (.int (2 : Int32)), .val (.int (2 : Int32)), .val (.ref a4), .val (.ref a5)] [(.int (2 : Int32)), (.int (2 : Int32))])) _
    refine XS.icmpYes X0.here hx rfl (pc0 := 2) (pc' := 28) rfl (hb hby d5_2) rfl (flt Int32.lt_irrefl).2.1 (by decide) (by decide) ?_
    show Steps p.tables e below (s₁.setTop (mkF m 28 #[.val (.ref a1), .val (.int (2 : Int32)), .val (.int (2 : Int32)), .val (.ref a4), .val (.ref a5)] [])) _
    refine XS.iconst X0.here hx rfl (hb hby d5_28) ?_
    show Steps p.tables e below (s₁.setTop (mkF m 29 #[.val (.ref a1), .val (.int (2 : Int32)), .val (.int (2 : Int32)), .val (.ref a4), .val (.ref a5)] [(.int (1 : Int32))])) _
    refine XS.goto X0.here hx rfl (pc0 := 29) (pc' := 33) rfl (hb hby d5_29) (by decide) (by decide) ?_
    exact k
  obtain ⟨fs, hr, hrun, hended, hW, hsame⟩ := X0.leave (v := some (.int (1 : Int32))) (fun h => by rw [Bd.returns] at h; cases h)
  refine ⟨_, _, ?_, hrun, hended, _, _, rfl, ?_, ⟨_, rfl⟩, hW, hsame.mono (by decide) (by decide)⟩
  · show Steps p.tables e below (s₁.setTop (mkF m 33 #[.val (.ref a1), .val (.int (2 : Int32)), .val (.int (2 : Int32)), .val (.ref a4), .val (.ref a5)] [(.int (1 : Int32))])) _
    exact retN X0 hx (t := .boolean) Bd.returns (by simp) (hb hby d5_33) hr
  · show Qrm5_2_2 Z a1 a4 a5 h0 n0 _ s₁.heap _
    rw [e0]
    exact ⟨rfl, N0, rfl⟩
def frm5_2_3 (x2 : Int32) (y2 : Int32) (l2 : Int32) (m2 : Int32) : Int32 := (if x2 = l2 then (if y2 = m2 then (1 : Int32) else (0 : Int32)) else (0 : Int32))
def Qrm5_2_3 (Z : State) (a1 : Addr) (a4 : Addr) (a5 : Addr) (b1 : Addr) (b2 : Addr) (k1 : ClassId) (k2 : ClassId) (k3 : ClassId) (k4 : ClassId) (x0 : Int32) (x1 : Int32) (x2 : Int32) (x3 : Int32) (x4 : Int32) (x5 : Int32) (x6 : Int32) (x7 : Int32) (x8 : Int32) (x9 : Int32) (x10 : Int32) (x11 : Int32) (x12 : Int32) (x13 : Int32) (x14 : Int32) (x15 : Int32) (y0 : Int32) (y1 : Int32) (y2 : Int32) (y3 : Int32) (y4 : Int32) (y5 : Int32) (y6 : Int32) (y7 : Int32) (y8 : Int32) (y9 : Int32) (y10 : Int32) (y11 : Int32) (y12 : Int32) (y13 : Int32) (y14 : Int32) (y15 : Int32) (l0 : Int32) (l1 : Int32) (l2 : Int32) (m0 : Int32) (m1 : Int32) (m2 : Int32) (h0 : Heap) (n0 : Nat) (v : Option Value) (h : Heap) (L : List Loc) : Prop := v = some (.int (frm5_2_3 x2 y2 l2 m2)) ∧ Fr n0 L ∧ h = h0
theorem efrm5_2_3 (m : MethodId) (x0 : Addr) (x3 : Addr) (x4 : Addr) : entryFrame m #[(.ref x0), (.int (2 : Int32)), (.int (3 : Int32)), (.ref x3), (.ref x4)] 5 = mkF m 0 #[.val (.ref x0), .val (.int (2 : Int32)), .val (.int (3 : Int32)), .val (.ref x3), .val (.ref x4)] [] := by first | (simp [entryFrame, mkF, argsToLocals, Value.category]; done) | rfl
set_option maxRecDepth 65536 in
set_option maxHeartbeats 40000000 in
theorem rm5_2_3 (l : Launch) (Z : State) (a0 : Array Value) (hw : ∀ d ∈ tables_1, d.before a0 Z = true) (ws : List Jvm.Cond) (a1 : Addr) (a4 : Addr) (a5 : Addr) (b1 : Addr) (b2 : Addr) (k1 : ClassId) (k2 : ClassId) (k3 : ClassId) (k4 : ClassId) (x0 : Int32) (x1 : Int32) (x2 : Int32) (x3 : Int32) (x4 : Int32) (x5 : Int32) (x6 : Int32) (x7 : Int32) (x8 : Int32) (x9 : Int32) (x10 : Int32) (x11 : Int32) (x12 : Int32) (x13 : Int32) (x14 : Int32) (x15 : Int32) (y0 : Int32) (y1 : Int32) (y2 : Int32) (y3 : Int32) (y4 : Int32) (y5 : Int32) (y6 : Int32) (y7 : Int32) (y8 : Int32) (y9 : Int32) (y10 : Int32) (y11 : Int32) (y12 : Int32) (y13 : Int32) (y14 : Int32) (y15 : Int32) (l0 : Int32) (l1 : Int32) (l2 : Int32) (m0 : Int32) (m1 : Int32) (m2 : Int32) (h0 : Heap) (n0 : Nat) (Z0 : n0 ≤ h0.size) (P0 : Exa Z h0 a1 "com/example/axiomwright/axiomwright/Arcs") (P1 : Fld Z h0 a1 "com/example/axiomwright/axiomwright/Arcs" "from" "[I" (.ref b1)) (P2 : Fld Z h0 a1 "com/example/axiomwright/axiomwright/Arcs" "to" "[I" (.ref b2)) (P3 : Arv Z h0 b1 k1 .int (16 : Int32) [(.int x0), (.int x1), (.int x2), (.int x3), (.int x4), (.int x5), (.int x6), (.int x7), (.int x8), (.int x9), (.int x10), (.int x11), (.int x12), (.int x13), (.int x14), (.int x15)] (.int (0 : Int32))) (P4 : Arv Z h0 b2 k2 .int (16 : Int32) [(.int y0), (.int y1), (.int y2), (.int y3), (.int y4), (.int y5), (.int y6), (.int y7), (.int y8), (.int y9), (.int y10), (.int y11), (.int y12), (.int y13), (.int y14), (.int y15)] (.int (0 : Int32))) (P5 : Arv Z h0 a4 k3 .int (3 : Int32) [(.int l0), (.int l1), (.int l2)] (.int (0 : Int32))) (P6 : Arv Z h0 a5 k4 .int (3 : Int32) [(.int m0), (.int m1), (.int m2)] (.int (0 : Int32))) :
    MetFree l (⟨"com/example/axiomwright/axiomwright/ArcsAddAllPinLaw", "at", "(Lcom/example/axiomwright/axiomwright/Arcs;II[I[I)Z"⟩ : MethodName) (head1 (Jvm.Cond.code (⟨"com/example/axiomwright/axiomwright/ArcsAddAllPinLaw", "at", "(Lcom/example/axiomwright/axiomwright/Arcs;II[I[I)Z"⟩ : MethodName) method_2_code 5 (some .boolean) :: ws) ({ frames := 1, cells := 0, slots := 0, locals := 13 } : Room)) (fun a U => a = #[(.ref a1), (.int (2 : Int32)), (.int (3 : Int32)), (.ref a4), (.ref a5)] ∧ Z.Warmed39 U.vm ∧ U.heap = h0) (fun _ _ _ _ _ => True) (fun _ U o U' => ∃ v L, o = .returned v ∧ Qrm5_2_3 Z a1 a4 a5 b1 b2 k1 k2 k3 k4 x0 x1 x2 x3 x4 x5 x6 x7 x8 x9 x10 x11 x12 x13 x14 x15 y0 y1 y2 y3 y4 y5 y6 y7 y8 y9 y10 y11 y12 y13 y14 y15 l0 l1 l2 m0 m1 m2 h0 n0 v U'.heap L ∧ FrameEnd U o U' L ({ frames := 1, cells := 0, slots := 0, locals := 13 } : Room).cells ({ frames := 1, cells := 0, slots := 0, locals := 13 } : Room).slots) := by
  refine MetFree.of_bodySF (plainFor_of_name pn_1) hisR ?_
  intro p e s m args below meth c s₁ Bd hml0 hP hK
  obtain ⟨rfl, hZ, hh⟩ := hP
  have hx := Bd.exec
  have hby := Bd.bytes
  have hml : c.maxLocals = 5 := hml0
  have hown : s.vm.findClass "com/example/axiomwright/axiomwright/ArcsAddAllPinLaw" = some m.cls := findClass_of_methodNamed Bd.named
  have hnm := (name_of_methodNamed Bd.named Bd.method).1
  have X0 : Stand p l e ({ frames := 1, cells := 0, slots := 0, locals := 13 } : Room) s m #[(.ref a1), (.int (2 : Int32)), (.int (3 : Int32)), (.ref a4), (.ref a5)] below meth c s₁ [] 0 0 := Stand.of_body Bd
  have e0 : s₁.heap = h0 := by rw [← hh, Bd.state]; rfl
  have N0 := Fr.nil n0
  have K0 : Keep h0 h0 [] := Keep.refl h0 _
  refine own_go (B := s₁.setTop (mkF m 0 #[.val (.ref a1), .val (.int (2 : Int32)), .val (.int (3 : Int32)), .val (.ref a4), .val (.ref a5)] [])) (fun t k => castTop (efrm5_2_3 m a1 a4 a5) k) ?_
  refine own_go (A := s₁.setTop (mkF m 0 #[.val (.ref a1), .val (.int (2 : Int32)), .val (.int (3 : Int32)), .val (.ref a4), .val (.ref a5)] [])) (B := s₁.setTop (mkF m 7 #[.val (.ref a1), .val (.int (2 : Int32)), .val (.int (3 : Int32)), .val (.ref a4), .val (.ref a5)] [(.int (2 : Int32)), (.ref a1)])) (fun t k => ?_) ?_
  · show Steps p.tables e below (s₁.setTop (mkF m 0 #[.val (.ref a1), .val (.int (2 : Int32)), .val (.int (3 : Int32)), .val (.ref a4), .val (.ref a5)] [])) _
    refine XS.iloadN X0.here hx rfl (hb hby d5_0) rfl ?_
    show Steps p.tables e below (s₁.setTop (mkF m 1 #[.val (.ref a1), .val (.int (2 : Int32)), .val (.int (3 : Int32)), .val (.ref a4), .val (.ref a5)] [(.int (2 : Int32))])) _
    refine XS.iloadN X0.here hx rfl (hb hby d5_1) rfl ?_
    show Steps p.tables e below (s₁.setTop (mkF m 2 #[.val (.ref a1), .val (.int (2 : Int32)), .val (.int (3 : Int32)), .val (.ref a4), .val (.ref a5)] [(.int (3 : Int32)), (.int (2 : Int32))])) _
    refine XS.icmpNo X0.here hx rfl (hb hby d5_2) rfl (tlt (by decide : ((2 : Int32) < (3 : Int32)))).2.1 ?_
    show Steps p.tables e below (s₁.setTop (mkF m 5 #[.val (.ref a1), .val (.int (2 : Int32)), .val (.int (3 : Int32)), .val (.ref a4), .val (.ref a5)] [])) _
    refine XS.aloadN X0.here hx rfl (hb hby d5_5) rfl rfl ?_
    show Steps p.tables e below (s₁.setTop (mkF m 6 #[.val (.ref a1), .val (.int (2 : Int32)), .val (.int (3 : Int32)), .val (.ref a4), .val (.ref a5)] [(.ref a1)])) _
    refine XS.iloadN X0.here hx rfl (hb hby d5_6) rfl ?_
    exact k
  obtain ⟨cq195, kq195, q195a, q195b, q195c⟩ := isOf hZ e0 P0
  obtain ⟨_, _, ⟨T195, L195, k195, n195⟩, -, X195, ⟨Lc195, hQ195, l195, y195, z195⟩, st195⟩ := X0.virtualBack hx (y := (⟨"com/example/axiomwright/axiomwright/Arcs", "tail", "(I)I"⟩ : MethodName)) (z := (⟨"com/example/axiomwright/axiomwright/Arcs", "tail", "(I)I"⟩ : MethodName)) hown (mvT hZ (hw _ (List.mem_of_getElem? (i := 36) rfl))) (mvT hZ (hw _ (List.mem_of_getElem? (i := 37) rfl))) (notFace_of_selects (args := #[]) (mvT hZ (hw _ (List.mem_of_getElem? (i := 39) rfl)))) (mvT hZ (hw _ (List.mem_of_getElem? (i := 39) rfl))) (mvT hZ (hw _ (List.mem_of_getElem? (i := 38) rfl))) (by decide) (backOf (W := 0) (rm7_2_16 l Z a0 hw [] a1 b1 k1 x0 x1 x2 x3 x4 x5 x6 x7 x8 x9 x10 x11 x12 x13 x14 x15 h0 n0 Z0 P1 P3) hZ (hw _ (List.mem_of_getElem? (i := 40) rfl)) (hw _ (List.mem_of_getElem? (i := 3) rfl)) (by decide) (by decide)) q195a q195c (g := (mkF m 7 #[.val (.ref a1), .val (.int (2 : Int32)), .val (.int (3 : Int32)), .val (.ref a4), .val (.ref a5)] [(.int (2 : Int32)), (.ref a1)])) rfl (by rw [hml]; rfl) (Steps.refl _) (argsL := [(.int (2 : Int32))]) (rest := []) (lenOf pd_1 rfl) rfl (by show 2 * 0 + _ ≤ _; exact Nat.le_of_eq rfl) (hb hby d5_7) (fun _ _ => ⟨rfl, e0, (by decide : 0 + 0 ≤ _), (by decide : 0 + 0 ≤ _)⟩)
  dsimp only [Pt.U, Pt.locs, Pt.cells, Pt.slots] at X195 l195 y195 z195 st195 hQ195
  subst l195 y195 z195
  obtain ⟨rfl, Nq195, e195⟩ := hQ195
  have N195 := Fr.app N0 Nq195
  refine own_go (A := _) (B := T195.setTop (mkF m 10 #[.val (.ref a1), .val (.int (2 : Int32)), .val (.int (3 : Int32)), .val (.ref a4), .val (.ref a5)] [(.int x2)])) (fun t k => st195.trans k) ?_
  refine own_go (A := T195.setTop (mkF m 10 #[.val (.ref a1), .val (.int (2 : Int32)), .val (.int (3 : Int32)), .val (.ref a4), .val (.ref a5)] [(.int x2)])) (B := T195.setTop (mkF m 12 #[.val (.ref a1), .val (.int (2 : Int32)), .val (.int (3 : Int32)), .val (.ref a4), .val (.ref a5)] [(.int (2 : Int32)), (.ref a4), (.int x2)])) (fun t k => ?_) ?_
  · show Steps p.tables e below (T195.setTop (mkF m 10 #[.val (.ref a1), .val (.int (2 : Int32)), .val (.int (3 : Int32)), .val (.ref a4), .val (.ref a5)] [(.int x2)])) _
    refine XS.aloadN X195.here hx rfl (hb hby d5_10) rfl rfl ?_
    show Steps p.tables e below (T195.setTop (mkF m 11 #[.val (.ref a1), .val (.int (2 : Int32)), .val (.int (3 : Int32)), .val (.ref a4), .val (.ref a5)] [(.ref a4), (.int x2)])) _
    refine XS.iloadN X195.here hx rfl (hb hby d5_11) rfl ?_
    exact k
  obtain ⟨cl196, Ar196, q196, S196, M196, Ha196, G196⟩ := id P5
  have hin196 : ¬ ((2 : Int32) < 0 ∨ cl196.slots.size ≤ ((2 : Int32)).toNatClampNeg) := inb_of S196 ⟨by decide, by decide⟩
  refine own_go (A := T195.setTop (mkF m 12 #[.val (.ref a1), .val (.int (2 : Int32)), .val (.int (3 : Int32)), .val (.ref a4), .val (.ref a5)] [(.int (2 : Int32)), (.ref a4), (.int x2)])) (X195.iaload hx (j := (2 : Int32)) (v := (.int l2)) (by rw [e195]; exact Ar196.1) (State.isArrayOf_alike hZ.alike Ar196.2.1) Ar196.2.2 hin196 (Has.at Ha196 hin196 rfl) (g := (mkF m 12 #[.val (.ref a1), .val (.int (2 : Int32)), .val (.int (3 : Int32)), .val (.ref a4), .val (.ref a5)] [(.int (2 : Int32)), (.ref a4), (.int x2)])) rfl rfl (hb hby d5_12)) ?_
  by_cases hc13_197 : x2 = l2
  · refine own_go (A := T195.setTop (mkF m 13 #[.val (.ref a1), .val (.int (2 : Int32)), .val (.int (3 : Int32)), .val (.ref a4), .val (.ref a5)] [(.int l2), (.int x2)])) (B := T195.setTop (mkF m 16 #[.val (.ref a1), .val (.int (2 : Int32)), .val (.int (3 : Int32)), .val (.ref a4), .val (.ref a5)] [])) (fun t k => ?_) ?_
    · show Steps p.tables e below (T195.setTop (mkF m 13 #[.val (.ref a1), .val (.int (2 : Int32)), .val (.int (3 : Int32)), .val (.ref a4), .val (.ref a5)] [(.int l2), (.int x2)])) _
      refine XS.icmpNo X195.here hx rfl (hb hby d5_13) rfl (teq hc13_197).2 ?_
      exact k
    refine own_go (A := T195.setTop (mkF m 16 #[.val (.ref a1), .val (.int (2 : Int32)), .val (.int (3 : Int32)), .val (.ref a4), .val (.ref a5)] [])) (B := T195.setTop (mkF m 18 #[.val (.ref a1), .val (.int (2 : Int32)), .val (.int (3 : Int32)), .val (.ref a4), .val (.ref a5)] [(.int (2 : Int32)), (.ref a1)])) (fun t k => ?_) ?_
    · show Steps p.tables e below (T195.setTop (mkF m 16 #[.val (.ref a1), .val (.int (2 : Int32)), .val (.int (3 : Int32)), .val (.ref a4), .val (.ref a5)] [])) _
      refine XS.aloadN X195.here hx rfl (hb hby d5_16) rfl rfl ?_
      show Steps p.tables e below (T195.setTop (mkF m 17 #[.val (.ref a1), .val (.int (2 : Int32)), .val (.int (3 : Int32)), .val (.ref a4), .val (.ref a5)] [(.ref a1)])) _
      refine XS.iloadN X195.here hx rfl (hb hby d5_17) rfl ?_
      exact k
    obtain ⟨cq198, kq198, q198a, q198b, q198c⟩ := isOf hZ e195 P0
    obtain ⟨_, _, ⟨T198, L198, k198, n198⟩, -, X198, ⟨Lc198, hQ198, l198, y198, z198⟩, st198⟩ := X195.virtualBack hx (y := (⟨"com/example/axiomwright/axiomwright/Arcs", "head", "(I)I"⟩ : MethodName)) (z := (⟨"com/example/axiomwright/axiomwright/Arcs", "head", "(I)I"⟩ : MethodName)) hown (mvT hZ (hw _ (List.mem_of_getElem? (i := 41) rfl))) (mvT hZ (hw _ (List.mem_of_getElem? (i := 42) rfl))) (notFace_of_selects (args := #[]) (mvT hZ (hw _ (List.mem_of_getElem? (i := 44) rfl)))) (mvT hZ (hw _ (List.mem_of_getElem? (i := 44) rfl))) (mvT hZ (hw _ (List.mem_of_getElem? (i := 43) rfl))) (by decide) (backOf (W := 0) (rm8_2_16 l Z a0 hw [] a1 b2 k2 y0 y1 y2 y3 y4 y5 y6 y7 y8 y9 y10 y11 y12 y13 y14 y15 h0 n0 Z0 P2 P4) hZ (hw _ (List.mem_of_getElem? (i := 45) rfl)) (hw _ (List.mem_of_getElem? (i := 3) rfl)) (by decide) (by decide)) q198a q198c (g := (mkF m 18 #[.val (.ref a1), .val (.int (2 : Int32)), .val (.int (3 : Int32)), .val (.ref a4), .val (.ref a5)] [(.int (2 : Int32)), (.ref a1)])) rfl (by rw [hml]; rfl) (Steps.refl _) (argsL := [(.int (2 : Int32))]) (rest := []) (lenOf pd_1 rfl) rfl (by show 2 * 0 + _ ≤ _; exact Nat.le_of_eq rfl) (hb hby d5_18) (fun _ _ => ⟨rfl, e195, (by decide : 0 + 0 ≤ _), (by decide : 0 + 0 ≤ _)⟩)
    dsimp only [Pt.U, Pt.locs, Pt.cells, Pt.slots] at X198 l198 y198 z198 st198 hQ198
    subst l198 y198 z198
    obtain ⟨rfl, Nq198, e198⟩ := hQ198
    have N198 := Fr.app N195 Nq198
    refine own_go (A := _) (B := T198.setTop (mkF m 21 #[.val (.ref a1), .val (.int (2 : Int32)), .val (.int (3 : Int32)), .val (.ref a4), .val (.ref a5)] [(.int y2)])) (fun t k => st198.trans k) ?_
    refine own_go (A := T198.setTop (mkF m 21 #[.val (.ref a1), .val (.int (2 : Int32)), .val (.int (3 : Int32)), .val (.ref a4), .val (.ref a5)] [(.int y2)])) (B := T198.setTop (mkF m 24 #[.val (.ref a1), .val (.int (2 : Int32)), .val (.int (3 : Int32)), .val (.ref a4), .val (.ref a5)] [(.int (2 : Int32)), (.ref a5), (.int y2)])) (fun t k => ?_) ?_
    · show Steps p.tables e below (T198.setTop (mkF m 21 #[.val (.ref a1), .val (.int (2 : Int32)), .val (.int (3 : Int32)), .val (.ref a4), .val (.ref a5)] [(.int y2)])) _
      refine XS.aload X198.here hx rfl (hb hby d5_21) rfl rfl ?_
      show Steps p.tables e below (T198.setTop (mkF m 23 #[.val (.ref a1), .val (.int (2 : Int32)), .val (.int (3 : Int32)), .val (.ref a4), .val (.ref a5)] [(.ref a5), (.int y2)])) _
      refine XS.iloadN X198.here hx rfl (hb hby d5_23) rfl ?_
      exact k
    obtain ⟨cl199, Ar199, q199, S199, M199, Ha199, G199⟩ := id P6
    have hin199 : ¬ ((2 : Int32) < 0 ∨ cl199.slots.size ≤ ((2 : Int32)).toNatClampNeg) := inb_of S199 ⟨by decide, by decide⟩
    refine own_go (A := T198.setTop (mkF m 24 #[.val (.ref a1), .val (.int (2 : Int32)), .val (.int (3 : Int32)), .val (.ref a4), .val (.ref a5)] [(.int (2 : Int32)), (.ref a5), (.int y2)])) (X198.iaload hx (j := (2 : Int32)) (v := (.int m2)) (by rw [e198]; exact Ar199.1) (State.isArrayOf_alike hZ.alike Ar199.2.1) Ar199.2.2 hin199 (Has.at Ha199 hin199 rfl) (g := (mkF m 24 #[.val (.ref a1), .val (.int (2 : Int32)), .val (.int (3 : Int32)), .val (.ref a4), .val (.ref a5)] [(.int (2 : Int32)), (.ref a5), (.int y2)])) rfl rfl (hb hby d5_24)) ?_
    by_cases hc25_200 : y2 = m2
    · refine own_go (A := T198.setTop (mkF m 25 #[.val (.ref a1), .val (.int (2 : Int32)), .val (.int (3 : Int32)), .val (.ref a4), .val (.ref a5)] [(.int m2), (.int y2)])) (B := T198.setTop (mkF m 28 #[.val (.ref a1), .val (.int (2 : Int32)), .val (.int (3 : Int32)), .val (.ref a4), .val (.ref a5)] [])) (fun t k => ?_) ?_
      · show Steps p.tables e below (T198.setTop (mkF m 25 #[.val (.ref a1), .val (.int (2 : Int32)), .val (.int (3 : Int32)), .val (.ref a4), .val (.ref a5)] [(.int m2), (.int y2)])) _
        refine XS.icmpNo X198.here hx rfl (hb hby d5_25) rfl (teq hc25_200).2 ?_
        exact k
      refine own_go (A := T198.setTop (mkF m 28 #[.val (.ref a1), .val (.int (2 : Int32)), .val (.int (3 : Int32)), .val (.ref a4), .val (.ref a5)] [])) (B := T198.setTop (mkF m 33 #[.val (.ref a1), .val (.int (2 : Int32)), .val (.int (3 : Int32)), .val (.ref a4), .val (.ref a5)] [(.int (1 : Int32))])) (fun t k => ?_) ?_
      · show Steps p.tables e below (T198.setTop (mkF m 28 #[.val (.ref a1), .val (.int (2 : Int32)), .val (.int (3 : Int32)), .val (.ref a4), .val (.ref a5)] [])) _
        refine XS.iconst X198.here hx rfl (hb hby d5_28) ?_
        show Steps p.tables e below (T198.setTop (mkF m 29 #[.val (.ref a1), .val (.int (2 : Int32)), .val (.int (3 : Int32)), .val (.ref a4), .val (.ref a5)] [(.int (1 : Int32))])) _
        refine XS.goto X198.here hx rfl (pc0 := 29) (pc' := 33) rfl (hb hby d5_29) (by decide) (by decide) ?_
        exact k
      obtain ⟨fs, hr, hrun, hended, hW, hsame⟩ := X198.leave (v := some (.int (1 : Int32))) (fun h => by rw [Bd.returns] at h; cases h)
      refine ⟨_, _, ?_, hrun, hended, _, _, rfl, ?_, ⟨_, rfl⟩, hW, hsame.mono (by decide) (by decide)⟩
      · show Steps p.tables e below (T198.setTop (mkF m 33 #[.val (.ref a1), .val (.int (2 : Int32)), .val (.int (3 : Int32)), .val (.ref a4), .val (.ref a5)] [(.int (1 : Int32))])) _
        exact retN X198 hx (t := .boolean) Bd.returns (by simp) (hb hby d5_33) hr
      · show Qrm5_2_3 Z a1 a4 a5 b1 b2 k1 k2 k3 k4 x0 x1 x2 x3 x4 x5 x6 x7 x8 x9 x10 x11 x12 x13 x14 x15 y0 y1 y2 y3 y4 y5 y6 y7 y8 y9 y10 y11 y12 y13 y14 y15 l0 l1 l2 m0 m1 m2 h0 n0 _ T198.heap _
        rw [e198]
        exact ⟨(by simp only [frm5_2_3, if_pos hc13_197, if_pos hc25_200]), N198, rfl⟩
    · refine own_go (A := T198.setTop (mkF m 25 #[.val (.ref a1), .val (.int (2 : Int32)), .val (.int (3 : Int32)), .val (.ref a4), .val (.ref a5)] [(.int m2), (.int y2)])) (B := T198.setTop (mkF m 32 #[.val (.ref a1), .val (.int (2 : Int32)), .val (.int (3 : Int32)), .val (.ref a4), .val (.ref a5)] [])) (fun t k => ?_) ?_
      · show Steps p.tables e below (T198.setTop (mkF m 25 #[.val (.ref a1), .val (.int (2 : Int32)), .val (.int (3 : Int32)), .val (.ref a4), .val (.ref a5)] [(.int m2), (.int y2)])) _
        refine XS.icmpYes X198.here hx rfl (pc0 := 25) (pc' := 32) rfl (hb hby d5_25) rfl (feq hc25_200).2 (by decide) (by decide) ?_
        exact k
      refine own_go (A := T198.setTop (mkF m 32 #[.val (.ref a1), .val (.int (2 : Int32)), .val (.int (3 : Int32)), .val (.ref a4), .val (.ref a5)] [])) (B := T198.setTop (mkF m 33 #[.val (.ref a1), .val (.int (2 : Int32)), .val (.int (3 : Int32)), .val (.ref a4), .val (.ref a5)] [(.int (0 : Int32))])) (fun t k => ?_) ?_
      · show Steps p.tables e below (T198.setTop (mkF m 32 #[.val (.ref a1), .val (.int (2 : Int32)), .val (.int (3 : Int32)), .val (.ref a4), .val (.ref a5)] [])) _
        refine XS.iconst X198.here hx rfl (hb hby d5_32) ?_
        exact k
      obtain ⟨fs, hr, hrun, hended, hW, hsame⟩ := X198.leave (v := some (.int (0 : Int32))) (fun h => by rw [Bd.returns] at h; cases h)
      refine ⟨_, _, ?_, hrun, hended, _, _, rfl, ?_, ⟨_, rfl⟩, hW, hsame.mono (by decide) (by decide)⟩
      · show Steps p.tables e below (T198.setTop (mkF m 33 #[.val (.ref a1), .val (.int (2 : Int32)), .val (.int (3 : Int32)), .val (.ref a4), .val (.ref a5)] [(.int (0 : Int32))])) _
        exact retN X198 hx (t := .boolean) Bd.returns (by simp) (hb hby d5_33) hr
      · show Qrm5_2_3 Z a1 a4 a5 b1 b2 k1 k2 k3 k4 x0 x1 x2 x3 x4 x5 x6 x7 x8 x9 x10 x11 x12 x13 x14 x15 y0 y1 y2 y3 y4 y5 y6 y7 y8 y9 y10 y11 y12 y13 y14 y15 l0 l1 l2 m0 m1 m2 h0 n0 _ T198.heap _
        rw [e198]
        exact ⟨(by simp only [frm5_2_3, if_pos hc13_197, if_neg hc25_200]), N198, rfl⟩
  · refine own_go (A := T195.setTop (mkF m 13 #[.val (.ref a1), .val (.int (2 : Int32)), .val (.int (3 : Int32)), .val (.ref a4), .val (.ref a5)] [(.int l2), (.int x2)])) (B := T195.setTop (mkF m 32 #[.val (.ref a1), .val (.int (2 : Int32)), .val (.int (3 : Int32)), .val (.ref a4), .val (.ref a5)] [])) (fun t k => ?_) ?_
    · show Steps p.tables e below (T195.setTop (mkF m 13 #[.val (.ref a1), .val (.int (2 : Int32)), .val (.int (3 : Int32)), .val (.ref a4), .val (.ref a5)] [(.int l2), (.int x2)])) _
      refine XS.icmpYes X195.here hx rfl (pc0 := 13) (pc' := 32) rfl (hb hby d5_13) rfl (feq hc13_197).2 (by decide) (by decide) ?_
      exact k
    refine own_go (A := T195.setTop (mkF m 32 #[.val (.ref a1), .val (.int (2 : Int32)), .val (.int (3 : Int32)), .val (.ref a4), .val (.ref a5)] [])) (B := T195.setTop (mkF m 33 #[.val (.ref a1), .val (.int (2 : Int32)), .val (.int (3 : Int32)), .val (.ref a4), .val (.ref a5)] [(.int (0 : Int32))])) (fun t k => ?_) ?_
    · show Steps p.tables e below (T195.setTop (mkF m 32 #[.val (.ref a1), .val (.int (2 : Int32)), .val (.int (3 : Int32)), .val (.ref a4), .val (.ref a5)] [])) _
      refine XS.iconst X195.here hx rfl (hb hby d5_32) ?_
      exact k
    obtain ⟨fs, hr, hrun, hended, hW, hsame⟩ := X195.leave (v := some (.int (0 : Int32))) (fun h => by rw [Bd.returns] at h; cases h)
    refine ⟨_, _, ?_, hrun, hended, _, _, rfl, ?_, ⟨_, rfl⟩, hW, hsame.mono (by decide) (by decide)⟩
    · show Steps p.tables e below (T195.setTop (mkF m 33 #[.val (.ref a1), .val (.int (2 : Int32)), .val (.int (3 : Int32)), .val (.ref a4), .val (.ref a5)] [(.int (0 : Int32))])) _
      exact retN X195 hx (t := .boolean) Bd.returns (by simp) (hb hby d5_33) hr
    · show Qrm5_2_3 Z a1 a4 a5 b1 b2 k1 k2 k3 k4 x0 x1 x2 x3 x4 x5 x6 x7 x8 x9 x10 x11 x12 x13 x14 x15 y0 y1 y2 y3 y4 y5 y6 y7 y8 y9 y10 y11 y12 y13 y14 y15 l0 l1 l2 m0 m1 m2 h0 n0 _ T195.heap _
      rw [e195]
      exact ⟨(by simp only [frm5_2_3, if_neg hc13_197]), N195, rfl⟩
theorem own_nb (x : Int32) : ((((x.toUInt32 >>> ((1 : Int32) &&& 31).toUInt32).toInt32) &&& (3 : Int32)) % (3 : Int32)) = (0 : Int32) ∨ ((((x.toUInt32 >>> ((1 : Int32) &&& 31).toUInt32).toInt32) &&& (3 : Int32)) % (3 : Int32)) = (1 : Int32) ∨ ((((x.toUInt32 >>> ((1 : Int32) &&& 31).toUInt32).toInt32) &&& (3 : Int32)) % (3 : Int32)) = (2 : Int32) := by
  generalize ((x.toUInt32 >>> ((1 : Int32) &&& 31).toUInt32).toInt32) = y
  have h1 := (c_and y 3 (by decide)).1
  have h2 := (c_irem (y &&& (3 : Int32)) 3 3 rfl).1 h1
  simp only [← Int32.toInt_inj]
  simp only [Int32.reduceToInt]
  omega
def Qrm0 (Z : State) (p1 : Int32) (p2 : Int32) (p3 : Int32) (p4 : Int32) (p5 : Int32) (p6 : Int32) (h0 : Heap) (n0 : Nat) (v : Option Value) (h : Heap) (L : List Loc) : Prop := v = some (.int (1 : Int32)) ∧ Fr n0 L
theorem efrm0 (m : MethodId) (x0 : Int32) (x1 : Int32) (x2 : Int32) (x3 : Int32) (x4 : Int32) (x5 : Int32) : entryFrame m #[(.int x0), (.int x1), (.int x2), (.int x3), (.int x4), (.int x5)] maxLocals = mkF m 0 #[.val (.int x0), .val (.int x1), .val (.int x2), .val (.int x3), .val (.int x4), .val (.int x5), .unset, .unset, .unset, .unset, .unset, .unset, .unset] [] := by first | (simp [entryFrame, mkF, argsToLocals, Value.category, maxLocals]; done) | rfl
set_option maxRecDepth 65536 in
set_option maxHeartbeats 40000000 in
theorem rm0 (l : Launch) (Z : State) (a0 : Array Value) (hw : ∀ d ∈ tables_1, d.before a0 Z = true) (ws : List Jvm.Cond) (p1 : Int32) (p2 : Int32) (p3 : Int32) (p4 : Int32) (p5 : Int32) (p6 : Int32) (h0 : Heap) (n0 : Nat) (Z0 : n0 ≤ h0.size)  :
    MetFree l x (head1 (Jvm.Cond.code x code maxLocals ret :: ws) room_1) (fun a U => a = #[(.int p1), (.int p2), (.int p3), (.int p4), (.int p5), (.int p6)] ∧ Z.Warmed39 U.vm ∧ U.heap = h0) (fun _ _ _ _ _ => True) (fun _ U o U' => ∃ v L, o = .returned v ∧ Qrm0 Z p1 p2 p3 p4 p5 p6 h0 n0 v U'.heap L ∧ FrameEnd U o U' L room_1.cells room_1.slots) := by
  refine MetFree.of_bodySF (plainFor_of_name pn_1) hisR ?_
  intro p e s m args below meth c s₁ Bd hml0 hP hK
  obtain ⟨rfl, hZ, hh⟩ := hP
  have hx := Bd.exec
  have hby := Bd.bytes
  have hml : c.maxLocals = 13 := hml0
  have hown : s.vm.findClass "com/example/axiomwright/axiomwright/ArcsAddAllPinLaw" = some m.cls := findClass_of_methodNamed Bd.named
  have hnm := (name_of_methodNamed Bd.named Bd.method).1
  have X0 : Stand p l e room_1 s m #[(.int p1), (.int p2), (.int p3), (.int p4), (.int p5), (.int p6)] below meth c s₁ [] 0 0 := Stand.of_body Bd
  have e0 : s₁.heap = h0 := by rw [← hh, Bd.state]; rfl
  have N0 := Fr.nil n0
  have K0 : Keep h0 h0 [] := Keep.refl h0 _
  refine own_go (B := s₁.setTop (mkF m 0 #[.val (.int p1), .val (.int p2), .val (.int p3), .val (.int p4), .val (.int p5), .val (.int p6), .unset, .unset, .unset, .unset, .unset, .unset, .unset] [])) (fun t k => castTop (efrm0 m p1 p2 p3 p4 p5 p6) k) ?_
  refine own_go (A := s₁.setTop (mkF m 0 #[.val (.int p1), .val (.int p2), .val (.int p3), .val (.int p4), .val (.int p5), .val (.int p6), .unset, .unset, .unset, .unset, .unset, .unset, .unset] [])) (B := s₁.setTop (mkF m 3 #[.val (.int p1), .val (.int p2), .val (.int p3), .val (.int p4), .val (.int p5), .val (.int p6), .unset, .unset, .unset, .unset, .unset, .unset, .unset] [(.int (p1 &&& (1 : Int32)))])) (fun t k => ?_) ?_
  · show Steps p.tables e below (s₁.setTop (mkF m 0 #[.val (.int p1), .val (.int p2), .val (.int p3), .val (.int p4), .val (.int p5), .val (.int p6), .unset, .unset, .unset, .unset, .unset, .unset, .unset] [])) _
    refine XS.iloadN X0.here hx rfl (hb hby at_0) rfl ?_
    show Steps p.tables e below (s₁.setTop (mkF m 1 #[.val (.int p1), .val (.int p2), .val (.int p3), .val (.int p4), .val (.int p5), .val (.int p6), .unset, .unset, .unset, .unset, .unset, .unset, .unset] [(.int p1)])) _
    refine XS.iconst X0.here hx rfl (hb hby at_1) ?_
    show Steps p.tables e below (s₁.setTop (mkF m 2 #[.val (.int p1), .val (.int p2), .val (.int p3), .val (.int p4), .val (.int p5), .val (.int p6), .unset, .unset, .unset, .unset, .unset, .unset, .unset] [(.int (1 : Int32)), (.int p1)])) _
    refine XS.iand X0.here hx rfl (hb hby at_2) rfl ?_
    exact k
  by_cases hc3_201 : (p1 &&& (1 : Int32)) = (0 : Int32)
  · refine own_go (A := s₁.setTop (mkF m 3 #[.val (.int p1), .val (.int p2), .val (.int p3), .val (.int p4), .val (.int p5), .val (.int p6), .unset, .unset, .unset, .unset, .unset, .unset, .unset] [(.int (p1 &&& (1 : Int32)))])) (B := s₁.setTop (mkF m 10 #[.val (.int p1), .val (.int p2), .val (.int p3), .val (.int p4), .val (.int p5), .val (.int p6), .unset, .unset, .unset, .unset, .unset, .unset, .unset] [])) (fun t k => ?_) ?_
    · show Steps p.tables e below (s₁.setTop (mkF m 3 #[.val (.int p1), .val (.int p2), .val (.int p3), .val (.int p4), .val (.int p5), .val (.int p6), .unset, .unset, .unset, .unset, .unset, .unset, .unset] [(.int (p1 &&& (1 : Int32)))])) _
      refine XS.ifYes X0.here hx rfl (pc0 := 3) (pc' := 10) rfl (hb hby at_3) rfl ((if0 _ _).trans (teq hc3_201).1) (by decide) (by decide) ?_
      exact k
    refine own_go (A := s₁.setTop (mkF m 10 #[.val (.int p1), .val (.int p2), .val (.int p3), .val (.int p4), .val (.int p5), .val (.int p6), .unset, .unset, .unset, .unset, .unset, .unset, .unset] [])) (B := s₁.setTop (mkF m 20 #[.val (.int p1), .val (.int p2), .val (.int p3), .val (.int p4), .val (.int p5), .val (.int p6), .val (.int (0 : Int32)), .unset, .unset, .unset, .unset, .unset, .unset] [(.int ((((p1.toUInt32 >>> ((1 : Int32) &&& 31).toUInt32).toInt32) &&& (3 : Int32)) % (3 : Int32)))])) (fun t k => ?_) ?_
    · show Steps p.tables e below (s₁.setTop (mkF m 10 #[.val (.int p1), .val (.int p2), .val (.int p3), .val (.int p4), .val (.int p5), .val (.int p6), .unset, .unset, .unset, .unset, .unset, .unset, .unset] [])) _
      refine XS.iconst X0.here hx rfl (hb hby at_10) ?_
      show Steps p.tables e below (s₁.setTop (mkF m 11 #[.val (.int p1), .val (.int p2), .val (.int p3), .val (.int p4), .val (.int p5), .val (.int p6), .unset, .unset, .unset, .unset, .unset, .unset, .unset] [(.int (0 : Int32))])) _
      refine XS.istore X0.here hx rfl (hb hby at_11) rfl (l' := #[.val (.int p1), .val (.int p2), .val (.int p3), .val (.int p4), .val (.int p5), .val (.int p6), .val (.int (0 : Int32)), .unset, .unset, .unset, .unset, .unset, .unset]) rfl ?_
      show Steps p.tables e below (s₁.setTop (mkF m 13 #[.val (.int p1), .val (.int p2), .val (.int p3), .val (.int p4), .val (.int p5), .val (.int p6), .val (.int (0 : Int32)), .unset, .unset, .unset, .unset, .unset, .unset] [])) _
      refine XS.iloadN X0.here hx rfl (hb hby at_13) rfl ?_
      show Steps p.tables e below (s₁.setTop (mkF m 14 #[.val (.int p1), .val (.int p2), .val (.int p3), .val (.int p4), .val (.int p5), .val (.int p6), .val (.int (0 : Int32)), .unset, .unset, .unset, .unset, .unset, .unset] [(.int p1)])) _
      refine XS.iconst X0.here hx rfl (hb hby at_14) ?_
      show Steps p.tables e below (s₁.setTop (mkF m 15 #[.val (.int p1), .val (.int p2), .val (.int p3), .val (.int p4), .val (.int p5), .val (.int p6), .val (.int (0 : Int32)), .unset, .unset, .unset, .unset, .unset, .unset] [(.int (1 : Int32)), (.int p1)])) _
      refine XS.iushr X0.here hx rfl (hb hby at_15) rfl ?_
      show Steps p.tables e below (s₁.setTop (mkF m 16 #[.val (.int p1), .val (.int p2), .val (.int p3), .val (.int p4), .val (.int p5), .val (.int p6), .val (.int (0 : Int32)), .unset, .unset, .unset, .unset, .unset, .unset] [(.int ((p1.toUInt32 >>> ((1 : Int32) &&& 31).toUInt32).toInt32))])) _
      refine XS.iconst X0.here hx rfl (hb hby at_16) ?_
      show Steps p.tables e below (s₁.setTop (mkF m 17 #[.val (.int p1), .val (.int p2), .val (.int p3), .val (.int p4), .val (.int p5), .val (.int p6), .val (.int (0 : Int32)), .unset, .unset, .unset, .unset, .unset, .unset] [(.int (3 : Int32)), (.int ((p1.toUInt32 >>> ((1 : Int32) &&& 31).toUInt32).toInt32))])) _
      refine XS.iand X0.here hx rfl (hb hby at_17) rfl ?_
      show Steps p.tables e below (s₁.setTop (mkF m 18 #[.val (.int p1), .val (.int p2), .val (.int p3), .val (.int p4), .val (.int p5), .val (.int p6), .val (.int (0 : Int32)), .unset, .unset, .unset, .unset, .unset, .unset] [(.int (((p1.toUInt32 >>> ((1 : Int32) &&& 31).toUInt32).toInt32) &&& (3 : Int32)))])) _
      refine XS.iconst X0.here hx rfl (hb hby at_18) ?_
      show Steps p.tables e below (s₁.setTop (mkF m 19 #[.val (.int p1), .val (.int p2), .val (.int p3), .val (.int p4), .val (.int p5), .val (.int p6), .val (.int (0 : Int32)), .unset, .unset, .unset, .unset, .unset, .unset] [(.int (3 : Int32)), (.int (((p1.toUInt32 >>> ((1 : Int32) &&& 31).toUInt32).toInt32) &&& (3 : Int32)))])) _
      refine iremM X0 hx rfl (hb hby at_19) rfl (by decide) ?_
      exact k
    rcases own_nb _ with hk202 | hk202 | hk202
    · rw [hk202]
      refine own_go (A := s₁.setTop (mkF m 20 #[.val (.int p1), .val (.int p2), .val (.int p3), .val (.int p4), .val (.int p5), .val (.int p6), .val (.int (0 : Int32)), .unset, .unset, .unset, .unset, .unset, .unset] [(.int (0 : Int32))])) (B := s₁.setTop (mkF m 23 #[.val (.int p1), .val (.int p2), .val (.int p3), .val (.int p4), .val (.int p5), .val (.int p6), .val (.int (0 : Int32)), .val (.int (0 : Int32)), .unset, .unset, .unset, .unset, .unset] [(.int (3 : Int32))])) (fun t k => ?_) ?_
      · show Steps p.tables e below (s₁.setTop (mkF m 20 #[.val (.int p1), .val (.int p2), .val (.int p3), .val (.int p4), .val (.int p5), .val (.int p6), .val (.int (0 : Int32)), .unset, .unset, .unset, .unset, .unset, .unset] [(.int (0 : Int32))])) _
        refine XS.istore X0.here hx rfl (hb hby at_20) rfl (l' := #[.val (.int p1), .val (.int p2), .val (.int p3), .val (.int p4), .val (.int p5), .val (.int p6), .val (.int (0 : Int32)), .val (.int (0 : Int32)), .unset, .unset, .unset, .unset, .unset]) rfl ?_
        show Steps p.tables e below (s₁.setTop (mkF m 22 #[.val (.int p1), .val (.int p2), .val (.int p3), .val (.int p4), .val (.int p5), .val (.int p6), .val (.int (0 : Int32)), .val (.int (0 : Int32)), .unset, .unset, .unset, .unset, .unset] [])) _
        refine XS.iconst X0.here hx rfl (hb hby at_22) ?_
        exact k
      obtain ⟨T203, h203, k203, X203, e203, E203, A203, st203⟩ := newP X0 hx hZ (hw _ (List.mem_of_getElem? (i := 0) rfl)) e0 (g := (mkF m 23 #[.val (.int p1), .val (.int p2), .val (.int p3), .val (.int p4), .val (.int p5), .val (.int p6), .val (.int (0 : Int32)), .val (.int (0 : Int32)), .unset, .unset, .unset, .unset, .unset] [(.int (3 : Int32))])) rfl (hb hby at_23) rfl (by decide) (cap := 3) (by decide) (by decide) (by decide) (by decide)
      obtain ⟨b203, g203⟩ : ∃ z, z = h0.size := ⟨_, rfl⟩
      rw [← g203] at A203 st203
      have low203 : n0 ≤ b203 := Nat.le_trans Z0 (Nat.le_of_eq g203.symm)
      have sz203 : h0.size ≤ b203 := Nat.le_trans K0.1 (Nat.le_of_eq g203.symm)
      have Z203 : n0 ≤ h203.size := Nat.le_trans Z0 E203.1
      have K203 := K0.ext E203
      have V203 : Arv Z h203 b203 k203 .int (3 : Int32) [(.int (0 : Int32)), (.int (0 : Int32)), (.int (0 : Int32))] (.int (0 : Int32)) := (Arv.new A203 (by decide)).pad (pad_rep [] (.int (0 : Int32)) 3)
      refine own_go st203 ?_
      refine own_go (A := T203.setTop (mkF m 25 #[.val (.int p1), .val (.int p2), .val (.int p3), .val (.int p4), .val (.int p5), .val (.int p6), .val (.int (0 : Int32)), .val (.int (0 : Int32)), .unset, .unset, .unset, .unset, .unset] [(.ref b203)])) (B := T203.setTop (mkF m 28 #[.val (.int p1), .val (.int p2), .val (.int p3), .val (.int p4), .val (.int p5), .val (.int p6), .val (.int (0 : Int32)), .val (.int (0 : Int32)), .val (.ref b203), .unset, .unset, .unset, .unset] [(.int (3 : Int32))])) (fun t k => ?_) ?_
      · show Steps p.tables e below (T203.setTop (mkF m 25 #[.val (.int p1), .val (.int p2), .val (.int p3), .val (.int p4), .val (.int p5), .val (.int p6), .val (.int (0 : Int32)), .val (.int (0 : Int32)), .unset, .unset, .unset, .unset, .unset] [(.ref b203)])) _
        refine XS.astore X203.here hx rfl (hb hby at_25) rfl rfl (l' := #[.val (.int p1), .val (.int p2), .val (.int p3), .val (.int p4), .val (.int p5), .val (.int p6), .val (.int (0 : Int32)), .val (.int (0 : Int32)), .val (.ref b203), .unset, .unset, .unset, .unset]) rfl ?_
        show Steps p.tables e below (T203.setTop (mkF m 27 #[.val (.int p1), .val (.int p2), .val (.int p3), .val (.int p4), .val (.int p5), .val (.int p6), .val (.int (0 : Int32)), .val (.int (0 : Int32)), .val (.ref b203), .unset, .unset, .unset, .unset] [])) _
        refine XS.iconst X203.here hx rfl (hb hby at_27) ?_
        exact k
      obtain ⟨T204, h204, k204, X204, e204, E204, A204, st204⟩ := newP X203 hx hZ (hw _ (List.mem_of_getElem? (i := 0) rfl)) e203 (g := (mkF m 28 #[.val (.int p1), .val (.int p2), .val (.int p3), .val (.int p4), .val (.int p5), .val (.int p6), .val (.int (0 : Int32)), .val (.int (0 : Int32)), .val (.ref b203), .unset, .unset, .unset, .unset] [(.int (3 : Int32))])) rfl (hb hby at_28) rfl (by decide) (cap := 3) (by decide) (by decide) (by decide) (by decide)
      obtain ⟨b204, g204⟩ : ∃ z, z = h203.size := ⟨_, rfl⟩
      rw [← g204] at A204 st204
      have ne204_b203 : b203 ≠ b204 := Nat.ne_of_lt (Nat.lt_of_lt_of_le V203.lt (Nat.le_of_eq g204.symm))
      have low204 : n0 ≤ b204 := Nat.le_trans Z203 (Nat.le_of_eq g204.symm)
      have sz204 : h0.size ≤ b204 := Nat.le_trans K203.1 (Nat.le_of_eq g204.symm)
      have Q205 : Arv Z h204 b203 k203 .int (3 : Int32) [(.int (0 : Int32)), (.int (0 : Int32)), (.int (0 : Int32))] (.int (0 : Int32)) := V203.ext E204
      have Z204 : n0 ≤ h204.size := Nat.le_trans Z203 E204.1
      have K204 := K203.ext E204
      have V204 : Arv Z h204 b204 k204 .int (3 : Int32) [(.int (0 : Int32)), (.int (0 : Int32)), (.int (0 : Int32))] (.int (0 : Int32)) := (Arv.new A204 (by decide)).pad (pad_rep [] (.int (0 : Int32)) 3)
      refine own_go st204 ?_
      refine own_go (A := T204.setTop (mkF m 30 #[.val (.int p1), .val (.int p2), .val (.int p3), .val (.int p4), .val (.int p5), .val (.int p6), .val (.int (0 : Int32)), .val (.int (0 : Int32)), .val (.ref b203), .unset, .unset, .unset, .unset] [(.ref b204)])) (B := T204.setTop (mkF m 32 #[.val (.int p1), .val (.int p2), .val (.int p3), .val (.int p4), .val (.int p5), .val (.int p6), .val (.int (0 : Int32)), .val (.int (0 : Int32)), .val (.ref b203), .val (.ref b204), .unset, .unset, .unset] [])) (fun t k => ?_) ?_
      · show Steps p.tables e below (T204.setTop (mkF m 30 #[.val (.int p1), .val (.int p2), .val (.int p3), .val (.int p4), .val (.int p5), .val (.int p6), .val (.int (0 : Int32)), .val (.int (0 : Int32)), .val (.ref b203), .unset, .unset, .unset, .unset] [(.ref b204)])) _
        refine XS.astore X204.here hx rfl (hb hby at_30) rfl rfl (l' := #[.val (.int p1), .val (.int p2), .val (.int p3), .val (.int p4), .val (.int p5), .val (.int p6), .val (.int (0 : Int32)), .val (.int (0 : Int32)), .val (.ref b203), .val (.ref b204), .unset, .unset, .unset]) rfl ?_
        exact k
      obtain ⟨T206, h206, X206, e206, E206, A206, D206, -, st206⟩ := newO X204 hx hZ hown (hw _ (List.mem_of_getElem? (i := 1) rfl)) (hw _ (List.mem_of_getElem? (i := 2) rfl)) (hw _ (List.mem_of_getElem? (i := 3) rfl)) e204 (g := (mkF m 32 #[.val (.int p1), .val (.int p2), .val (.int p3), .val (.int p4), .val (.int p5), .val (.int p6), .val (.int (0 : Int32)), .val (.int (0 : Int32)), .val (.ref b203), .val (.ref b204), .unset, .unset, .unset] [])) rfl (hb hby at_32) (by decide) (by decide)
      obtain ⟨b206, g206⟩ : ∃ z, z = h204.size := ⟨_, rfl⟩
      rw [← g206] at A206 D206 st206
      have ne206_b203 : b203 ≠ b206 := Nat.ne_of_lt (Nat.lt_of_lt_of_le Q205.lt (Nat.le_of_eq g206.symm))
      have ne206_b204 : b204 ≠ b206 := Nat.ne_of_lt (Nat.lt_of_lt_of_le V204.lt (Nat.le_of_eq g206.symm))
      have low206 : n0 ≤ b206 := Nat.le_trans Z204 (Nat.le_of_eq g206.symm)
      have sz206 : h0.size ≤ b206 := Nat.le_trans K204.1 (Nat.le_of_eq g206.symm)
      have Q207 : Arv Z h206 b203 k203 .int (3 : Int32) [(.int (0 : Int32)), (.int (0 : Int32)), (.int (0 : Int32))] (.int (0 : Int32)) := Q205.ext E206
      have Q208 : Arv Z h206 b204 k204 .int (3 : Int32) [(.int (0 : Int32)), (.int (0 : Int32)), (.int (0 : Int32))] (.int (0 : Int32)) := V204.ext E206
      have Z206 : n0 ≤ h206.size := Nat.le_trans Z204 E206.1
      have K206 := K204.ext E206
      have D206_from_Arcs : Fld Z h206 b206 "com/example/axiomwright/axiomwright/Arcs" "from" "[I" .null := D206 (Or.inl (hw _ (List.mem_of_getElem? (i := 11) rfl))) (ty := (.array .int)) (by decide)
      have D206_to_Arcs : Fld Z h206 b206 "com/example/axiomwright/axiomwright/Arcs" "to" "[I" .null := D206 (Or.inl (hw _ (List.mem_of_getElem? (i := 13) rfl))) (ty := (.array .int)) (by decide)
      have D206_size_Arcs : Fld Z h206 b206 "com/example/axiomwright/axiomwright/Arcs" "size" "I" (.int (0 : Int32)) := D206 (Or.inl (hw _ (List.mem_of_getElem? (i := 20) rfl))) (ty := .int) (by decide)
      refine own_go st206 ?_
      refine own_go (A := T206.setTop (mkF m 35 #[.val (.int p1), .val (.int p2), .val (.int p3), .val (.int p4), .val (.int p5), .val (.int p6), .val (.int (0 : Int32)), .val (.int (0 : Int32)), .val (.ref b203), .val (.ref b204), .unset, .unset, .unset] [(.ref b206)])) (B := T206.setTop (mkF m 36 #[.val (.int p1), .val (.int p2), .val (.int p3), .val (.int p4), .val (.int p5), .val (.int p6), .val (.int (0 : Int32)), .val (.int (0 : Int32)), .val (.ref b203), .val (.ref b204), .unset, .unset, .unset] [(.ref b206), (.ref b206)])) (fun t k => ?_) ?_
      · show Steps p.tables e below (T206.setTop (mkF m 35 #[.val (.int p1), .val (.int p2), .val (.int p3), .val (.int p4), .val (.int p5), .val (.int p6), .val (.int (0 : Int32)), .val (.int (0 : Int32)), .val (.ref b203), .val (.ref b204), .unset, .unset, .unset] [(.ref b206)])) _
        refine XS.dup X206.here hx rfl (hb hby at_35) rfl rfl ?_
        exact k
      obtain ⟨_, _, ⟨T209, L209, k209, n209⟩, -, X209, ⟨Lc209, hQ209, l209, y209, z209⟩, st209⟩ := X206.specialBack hx (y := (⟨"com/example/axiomwright/axiomwright/Arcs", "<init>", "()V"⟩ : MethodName)) rfl hown (mvT hZ (hw _ (List.mem_of_getElem? (i := 4) rfl))) (mvT hZ (hw _ (List.mem_of_getElem? (i := 5) rfl))) (mvT hZ (hw _ (List.mem_of_getElem? (i := 6) rfl))) (by decide) (backOf (W := 1) (rm1 l Z a0 hw [] b206 h206 n0 Z206 A206 D206_from_Arcs D206_to_Arcs D206_size_Arcs low206) hZ (hw _ (List.mem_of_getElem? (i := 6) rfl)) (hw _ (List.mem_of_getElem? (i := 3) rfl)) (by decide) (by decide)) (g := (mkF m 36 #[.val (.int p1), .val (.int p2), .val (.int p3), .val (.int p4), .val (.int p5), .val (.int p6), .val (.int (0 : Int32)), .val (.int (0 : Int32)), .val (.ref b203), .val (.ref b204), .unset, .unset, .unset] [(.ref b206), (.ref b206)])) rfl (by rw [hml]; rfl) (Steps.refl _) (a := b206) (argsL := []) (rest := [(.ref b206)]) (lenOf pd_2 rfl) rfl (by show 2 * 0 + _ ≤ _; exact Nat.le_of_eq rfl) (hb hby at_36) (fun _ _ => ⟨rfl, e206, (by decide : 3 + 2 ≤ _), (by decide : 9 + 32 ≤ _)⟩)
      dsimp only [Pt.U, Pt.locs, Pt.cells, Pt.slots] at X209 l209 y209 z209 st209 hQ209
      subst l209 y209 z209
      obtain ⟨b1_209, b2_209, k1_209, k2_209, rfl, Nq209, Kq209, sq_b1_209, sq_b2_209, pq209_0, U209_0, U209_1, U209_2, U209_3, U209_4⟩ := hQ209
      have ne_b203_b1_209 : b203 ≠ b1_209 := Nat.ne_of_lt (Nat.lt_of_lt_of_le Q207.lt sq_b1_209)
      have ne_b204_b1_209 : b204 ≠ b1_209 := Nat.ne_of_lt (Nat.lt_of_lt_of_le Q208.lt sq_b1_209)
      have ne_b206_b1_209 : b206 ≠ b1_209 := Nat.ne_of_lt (Nat.lt_of_lt_of_le A206.lt sq_b1_209)
      have low_b1_209 : n0 ≤ b1_209 := Nat.le_trans Z206 sq_b1_209
      have sz_b1_209 : h0.size ≤ b1_209 := Nat.le_trans K206.1 sq_b1_209
      have ne_b203_b2_209 : b203 ≠ b2_209 := Nat.ne_of_lt (Nat.lt_of_lt_of_le Q207.lt sq_b2_209)
      have ne_b204_b2_209 : b204 ≠ b2_209 := Nat.ne_of_lt (Nat.lt_of_lt_of_le Q208.lt sq_b2_209)
      have ne_b206_b2_209 : b206 ≠ b2_209 := Nat.ne_of_lt (Nat.lt_of_lt_of_le A206.lt sq_b2_209)
      have low_b2_209 : n0 ≤ b2_209 := Nat.le_trans Z206 sq_b2_209
      have sz_b2_209 : h0.size ≤ b2_209 := Nat.le_trans K206.1 sq_b2_209
      have Q210 : Arv Z T209.heap b203 k203 .int (3 : Int32) [(.int (0 : Int32)), (.int (0 : Int32)), (.int (0 : Int32))] (.int (0 : Int32)) := Q207.keep Kq209 (ninS ne206_b203 nin0)
      have Q211 : Arv Z T209.heap b204 k204 .int (3 : Int32) [(.int (0 : Int32)), (.int (0 : Int32)), (.int (0 : Int32))] (.int (0 : Int32)) := Q208.keep Kq209 (ninS ne206_b204 nin0)
      have Q212 : Exa Z T209.heap b206 "com/example/axiomwright/axiomwright/Arcs" := A206.keep Kq209
      have Z209 : n0 ≤ T209.heap.size := Nat.le_trans Z206 Kq209.1
      have K209 : Keep h0 T209.heap [] := K206.trans Kq209 (allS (Or.inr sz206) all0)
      have N209 := Fr.app N0 Nq209
      refine own_go (A := _) (B := T209.setTop (mkF m 39 #[.val (.int p1), .val (.int p2), .val (.int p3), .val (.int p4), .val (.int p5), .val (.int p6), .val (.int (0 : Int32)), .val (.int (0 : Int32)), .val (.ref b203), .val (.ref b204), .unset, .unset, .unset] [(.ref b206)])) (fun t k => st209.trans k) ?_
      refine own_go (A := T209.setTop (mkF m 39 #[.val (.int p1), .val (.int p2), .val (.int p3), .val (.int p4), .val (.int p5), .val (.int p6), .val (.int (0 : Int32)), .val (.int (0 : Int32)), .val (.ref b203), .val (.ref b204), .unset, .unset, .unset] [(.ref b206)])) (B := T209.setTop (mkF m 41 #[.val (.int p1), .val (.int p2), .val (.int p3), .val (.int p4), .val (.int p5), .val (.int p6), .val (.int (0 : Int32)), .val (.int (0 : Int32)), .val (.ref b203), .val (.ref b204), .val (.ref b206), .unset, .unset] [])) (fun t k => ?_) ?_
      · show Steps p.tables e below (T209.setTop (mkF m 39 #[.val (.int p1), .val (.int p2), .val (.int p3), .val (.int p4), .val (.int p5), .val (.int p6), .val (.int (0 : Int32)), .val (.int (0 : Int32)), .val (.ref b203), .val (.ref b204), .unset, .unset, .unset] [(.ref b206)])) _
        refine XS.astore X209.here hx rfl (hb hby at_39) rfl rfl (l' := #[.val (.int p1), .val (.int p2), .val (.int p3), .val (.int p4), .val (.int p5), .val (.int p6), .val (.int (0 : Int32)), .val (.int (0 : Int32)), .val (.ref b203), .val (.ref b204), .val (.ref b206), .unset, .unset]) rfl ?_
        exact k
      obtain ⟨T213, h213, X213, e213, E213, A213, D213, -, st213⟩ := newO X209 hx hZ hown (hw _ (List.mem_of_getElem? (i := 1) rfl)) (hw _ (List.mem_of_getElem? (i := 2) rfl)) (hw _ (List.mem_of_getElem? (i := 3) rfl)) rfl (g := (mkF m 41 #[.val (.int p1), .val (.int p2), .val (.int p3), .val (.int p4), .val (.int p5), .val (.int p6), .val (.int (0 : Int32)), .val (.int (0 : Int32)), .val (.ref b203), .val (.ref b204), .val (.ref b206), .unset, .unset] [])) rfl (hb hby at_41) (by decide) (by decide)
      obtain ⟨b213, g213⟩ : ∃ z, z = T209.heap.size := ⟨_, rfl⟩
      rw [← g213] at A213 D213 st213
      have ne213_b1_209 : b1_209 ≠ b213 := Nat.ne_of_lt (Nat.lt_of_lt_of_le U209_3.lt (Nat.le_of_eq g213.symm))
      have ne213_b203 : b203 ≠ b213 := Nat.ne_of_lt (Nat.lt_of_lt_of_le Q210.lt (Nat.le_of_eq g213.symm))
      have ne213_b204 : b204 ≠ b213 := Nat.ne_of_lt (Nat.lt_of_lt_of_le Q211.lt (Nat.le_of_eq g213.symm))
      have ne213_b206 : b206 ≠ b213 := Nat.ne_of_lt (Nat.lt_of_lt_of_le Q212.lt (Nat.le_of_eq g213.symm))
      have ne213_b2_209 : b2_209 ≠ b213 := Nat.ne_of_lt (Nat.lt_of_lt_of_le U209_4.lt (Nat.le_of_eq g213.symm))
      have low213 : n0 ≤ b213 := Nat.le_trans Z209 (Nat.le_of_eq g213.symm)
      have sz213 : h0.size ≤ b213 := Nat.le_trans K209.1 (Nat.le_of_eq g213.symm)
      have Q214 : Arv Z h213 b203 k203 .int (3 : Int32) [(.int (0 : Int32)), (.int (0 : Int32)), (.int (0 : Int32))] (.int (0 : Int32)) := Q210.ext E213
      have Q215 : Arv Z h213 b204 k204 .int (3 : Int32) [(.int (0 : Int32)), (.int (0 : Int32)), (.int (0 : Int32))] (.int (0 : Int32)) := Q211.ext E213
      have Q216 : Exa Z h213 b206 "com/example/axiomwright/axiomwright/Arcs" := Q212.ext E213
      have Q217 : Fld Z h213 b206 "com/example/axiomwright/axiomwright/Arcs" "from" "[I" (.ref b1_209) := U209_0.ext E213
      have Q218 : Fld Z h213 b206 "com/example/axiomwright/axiomwright/Arcs" "to" "[I" (.ref b2_209) := U209_1.ext E213
      have Q219 : Fld Z h213 b206 "com/example/axiomwright/axiomwright/Arcs" "size" "I" (.int (0 : Int32)) := U209_2.ext E213
      have Q220 : Arv Z h213 b1_209 k1_209 .int (16 : Int32) [(.int (0 : Int32)), (.int (0 : Int32)), (.int (0 : Int32)), (.int (0 : Int32)), (.int (0 : Int32)), (.int (0 : Int32)), (.int (0 : Int32)), (.int (0 : Int32)), (.int (0 : Int32)), (.int (0 : Int32)), (.int (0 : Int32)), (.int (0 : Int32)), (.int (0 : Int32)), (.int (0 : Int32)), (.int (0 : Int32)), (.int (0 : Int32))] (.int (0 : Int32)) := U209_3.ext E213
      have Q221 : Arv Z h213 b2_209 k2_209 .int (16 : Int32) [(.int (0 : Int32)), (.int (0 : Int32)), (.int (0 : Int32)), (.int (0 : Int32)), (.int (0 : Int32)), (.int (0 : Int32)), (.int (0 : Int32)), (.int (0 : Int32)), (.int (0 : Int32)), (.int (0 : Int32)), (.int (0 : Int32)), (.int (0 : Int32)), (.int (0 : Int32)), (.int (0 : Int32)), (.int (0 : Int32)), (.int (0 : Int32))] (.int (0 : Int32)) := U209_4.ext E213
      have Z213 : n0 ≤ h213.size := Nat.le_trans Z209 E213.1
      have K213 := K209.ext E213
      have D213_from_Arcs : Fld Z h213 b213 "com/example/axiomwright/axiomwright/Arcs" "from" "[I" .null := D213 (Or.inl (hw _ (List.mem_of_getElem? (i := 11) rfl))) (ty := (.array .int)) (by decide)
      have D213_to_Arcs : Fld Z h213 b213 "com/example/axiomwright/axiomwright/Arcs" "to" "[I" .null := D213 (Or.inl (hw _ (List.mem_of_getElem? (i := 13) rfl))) (ty := (.array .int)) (by decide)
      have D213_size_Arcs : Fld Z h213 b213 "com/example/axiomwright/axiomwright/Arcs" "size" "I" (.int (0 : Int32)) := D213 (Or.inl (hw _ (List.mem_of_getElem? (i := 20) rfl))) (ty := .int) (by decide)
      refine own_go st213 ?_
      refine own_go (A := T213.setTop (mkF m 44 #[.val (.int p1), .val (.int p2), .val (.int p3), .val (.int p4), .val (.int p5), .val (.int p6), .val (.int (0 : Int32)), .val (.int (0 : Int32)), .val (.ref b203), .val (.ref b204), .val (.ref b206), .unset, .unset] [(.ref b213)])) (B := T213.setTop (mkF m 45 #[.val (.int p1), .val (.int p2), .val (.int p3), .val (.int p4), .val (.int p5), .val (.int p6), .val (.int (0 : Int32)), .val (.int (0 : Int32)), .val (.ref b203), .val (.ref b204), .val (.ref b206), .unset, .unset] [(.ref b213), (.ref b213)])) (fun t k => ?_) ?_
      · show Steps p.tables e below (T213.setTop (mkF m 44 #[.val (.int p1), .val (.int p2), .val (.int p3), .val (.int p4), .val (.int p5), .val (.int p6), .val (.int (0 : Int32)), .val (.int (0 : Int32)), .val (.ref b203), .val (.ref b204), .val (.ref b206), .unset, .unset] [(.ref b213)])) _
        refine XS.dup X213.here hx rfl (hb hby at_44) rfl rfl ?_
        exact k
      obtain ⟨_, _, ⟨T222, L222, k222, n222⟩, -, X222, ⟨Lc222, hQ222, l222, y222, z222⟩, st222⟩ := X213.specialBack hx (y := (⟨"com/example/axiomwright/axiomwright/Arcs", "<init>", "()V"⟩ : MethodName)) rfl hown (mvT hZ (hw _ (List.mem_of_getElem? (i := 4) rfl))) (mvT hZ (hw _ (List.mem_of_getElem? (i := 5) rfl))) (mvT hZ (hw _ (List.mem_of_getElem? (i := 6) rfl))) (by decide) (backOf (W := 1) (rm1 l Z a0 hw [] b213 h213 n0 Z213 A213 D213_from_Arcs D213_to_Arcs D213_size_Arcs low213) hZ (hw _ (List.mem_of_getElem? (i := 6) rfl)) (hw _ (List.mem_of_getElem? (i := 3) rfl)) (by decide) (by decide)) (g := (mkF m 45 #[.val (.int p1), .val (.int p2), .val (.int p3), .val (.int p4), .val (.int p5), .val (.int p6), .val (.int (0 : Int32)), .val (.int (0 : Int32)), .val (.ref b203), .val (.ref b204), .val (.ref b206), .unset, .unset] [(.ref b213), (.ref b213)])) rfl (by rw [hml]; rfl) (Steps.refl _) (a := b213) (argsL := []) (rest := [(.ref b213)]) (lenOf pd_2 rfl) rfl (by show 2 * 0 + _ ≤ _; exact Nat.le_of_eq rfl) (hb hby at_45) (fun _ _ => ⟨rfl, e213, (by decide : 6 + 2 ≤ _), (by decide : 44 + 32 ≤ _)⟩)
      dsimp only [Pt.U, Pt.locs, Pt.cells, Pt.slots] at X222 l222 y222 z222 st222 hQ222
      subst l222 y222 z222
      obtain ⟨b1_222, b2_222, k1_222, k2_222, rfl, Nq222, Kq222, sq_b1_222, sq_b2_222, pq222_0, U222_0, U222_1, U222_2, U222_3, U222_4⟩ := hQ222
      have ne_b1_209_b1_222 : b1_209 ≠ b1_222 := Nat.ne_of_lt (Nat.lt_of_lt_of_le Q220.lt sq_b1_222)
      have ne_b203_b1_222 : b203 ≠ b1_222 := Nat.ne_of_lt (Nat.lt_of_lt_of_le Q214.lt sq_b1_222)
      have ne_b204_b1_222 : b204 ≠ b1_222 := Nat.ne_of_lt (Nat.lt_of_lt_of_le Q215.lt sq_b1_222)
      have ne_b206_b1_222 : b206 ≠ b1_222 := Nat.ne_of_lt (Nat.lt_of_lt_of_le Q216.lt sq_b1_222)
      have ne_b213_b1_222 : b213 ≠ b1_222 := Nat.ne_of_lt (Nat.lt_of_lt_of_le A213.lt sq_b1_222)
      have ne_b2_209_b1_222 : b2_209 ≠ b1_222 := Nat.ne_of_lt (Nat.lt_of_lt_of_le Q221.lt sq_b1_222)
      have low_b1_222 : n0 ≤ b1_222 := Nat.le_trans Z213 sq_b1_222
      have sz_b1_222 : h0.size ≤ b1_222 := Nat.le_trans K213.1 sq_b1_222
      have ne_b1_209_b2_222 : b1_209 ≠ b2_222 := Nat.ne_of_lt (Nat.lt_of_lt_of_le Q220.lt sq_b2_222)
      have ne_b203_b2_222 : b203 ≠ b2_222 := Nat.ne_of_lt (Nat.lt_of_lt_of_le Q214.lt sq_b2_222)
      have ne_b204_b2_222 : b204 ≠ b2_222 := Nat.ne_of_lt (Nat.lt_of_lt_of_le Q215.lt sq_b2_222)
      have ne_b206_b2_222 : b206 ≠ b2_222 := Nat.ne_of_lt (Nat.lt_of_lt_of_le Q216.lt sq_b2_222)
      have ne_b213_b2_222 : b213 ≠ b2_222 := Nat.ne_of_lt (Nat.lt_of_lt_of_le A213.lt sq_b2_222)
      have ne_b2_209_b2_222 : b2_209 ≠ b2_222 := Nat.ne_of_lt (Nat.lt_of_lt_of_le Q221.lt sq_b2_222)
      have low_b2_222 : n0 ≤ b2_222 := Nat.le_trans Z213 sq_b2_222
      have sz_b2_222 : h0.size ≤ b2_222 := Nat.le_trans K213.1 sq_b2_222
      have Q223 : Arv Z T222.heap b203 k203 .int (3 : Int32) [(.int (0 : Int32)), (.int (0 : Int32)), (.int (0 : Int32))] (.int (0 : Int32)) := Q214.keep Kq222 (ninS ne213_b203 nin0)
      have Q224 : Arv Z T222.heap b204 k204 .int (3 : Int32) [(.int (0 : Int32)), (.int (0 : Int32)), (.int (0 : Int32))] (.int (0 : Int32)) := Q215.keep Kq222 (ninS ne213_b204 nin0)
      have Q225 : Exa Z T222.heap b206 "com/example/axiomwright/axiomwright/Arcs" := Q216.keep Kq222
      have Q226 : Fld Z T222.heap b206 "com/example/axiomwright/axiomwright/Arcs" "from" "[I" (.ref b1_209) := Q217.keep Kq222 (ninS ne213_b206 nin0)
      have Q227 : Fld Z T222.heap b206 "com/example/axiomwright/axiomwright/Arcs" "to" "[I" (.ref b2_209) := Q218.keep Kq222 (ninS ne213_b206 nin0)
      have Q228 : Fld Z T222.heap b206 "com/example/axiomwright/axiomwright/Arcs" "size" "I" (.int (0 : Int32)) := Q219.keep Kq222 (ninS ne213_b206 nin0)
      have Q229 : Arv Z T222.heap b1_209 k1_209 .int (16 : Int32) [(.int (0 : Int32)), (.int (0 : Int32)), (.int (0 : Int32)), (.int (0 : Int32)), (.int (0 : Int32)), (.int (0 : Int32)), (.int (0 : Int32)), (.int (0 : Int32)), (.int (0 : Int32)), (.int (0 : Int32)), (.int (0 : Int32)), (.int (0 : Int32)), (.int (0 : Int32)), (.int (0 : Int32)), (.int (0 : Int32)), (.int (0 : Int32))] (.int (0 : Int32)) := Q220.keep Kq222 (ninS ne213_b1_209 nin0)
      have Q230 : Arv Z T222.heap b2_209 k2_209 .int (16 : Int32) [(.int (0 : Int32)), (.int (0 : Int32)), (.int (0 : Int32)), (.int (0 : Int32)), (.int (0 : Int32)), (.int (0 : Int32)), (.int (0 : Int32)), (.int (0 : Int32)), (.int (0 : Int32)), (.int (0 : Int32)), (.int (0 : Int32)), (.int (0 : Int32)), (.int (0 : Int32)), (.int (0 : Int32)), (.int (0 : Int32)), (.int (0 : Int32))] (.int (0 : Int32)) := Q221.keep Kq222 (ninS ne213_b2_209 nin0)
      have Q231 : Exa Z T222.heap b213 "com/example/axiomwright/axiomwright/Arcs" := A213.keep Kq222
      have Z222 : n0 ≤ T222.heap.size := Nat.le_trans Z213 Kq222.1
      have K222 : Keep h0 T222.heap [] := K213.trans Kq222 (allS (Or.inr sz213) all0)
      have N222 := Fr.app N209 Nq222
      refine own_go (A := _) (B := T222.setTop (mkF m 48 #[.val (.int p1), .val (.int p2), .val (.int p3), .val (.int p4), .val (.int p5), .val (.int p6), .val (.int (0 : Int32)), .val (.int (0 : Int32)), .val (.ref b203), .val (.ref b204), .val (.ref b206), .unset, .unset] [(.ref b213)])) (fun t k => st222.trans k) ?_
      refine own_go (A := T222.setTop (mkF m 48 #[.val (.int p1), .val (.int p2), .val (.int p3), .val (.int p4), .val (.int p5), .val (.int p6), .val (.int (0 : Int32)), .val (.int (0 : Int32)), .val (.ref b203), .val (.ref b204), .val (.ref b206), .unset, .unset] [(.ref b213)])) (B := T222.setTop (mkF m 144 #[.val (.int p1), .val (.int p2), .val (.int p3), .val (.int p4), .val (.int p5), .val (.int p6), .val (.int (0 : Int32)), .val (.int (0 : Int32)), .val (.ref b203), .val (.ref b204), .val (.ref b206), .val (.ref b213), .val (.int (0 : Int32))] [(.ref b213), (.ref b206)])) (fun t k => ?_) ?_
      · show Steps p.tables e below (T222.setTop (mkF m 48 #[.val (.int p1), .val (.int p2), .val (.int p3), .val (.int p4), .val (.int p5), .val (.int p6), .val (.int (0 : Int32)), .val (.int (0 : Int32)), .val (.ref b203), .val (.ref b204), .val (.ref b206), .unset, .unset] [(.ref b213)])) _
        refine XS.astore X222.here hx rfl (hb hby at_48) rfl rfl (l' := #[.val (.int p1), .val (.int p2), .val (.int p3), .val (.int p4), .val (.int p5), .val (.int p6), .val (.int (0 : Int32)), .val (.int (0 : Int32)), .val (.ref b203), .val (.ref b204), .val (.ref b206), .val (.ref b213), .unset]) rfl ?_
        show Steps p.tables e below (T222.setTop (mkF m 50 #[.val (.int p1), .val (.int p2), .val (.int p3), .val (.int p4), .val (.int p5), .val (.int p6), .val (.int (0 : Int32)), .val (.int (0 : Int32)), .val (.ref b203), .val (.ref b204), .val (.ref b206), .val (.ref b213), .unset] [])) _
        refine XS.iconst X222.here hx rfl (hb hby at_50) ?_
        show Steps p.tables e below (T222.setTop (mkF m 51 #[.val (.int p1), .val (.int p2), .val (.int p3), .val (.int p4), .val (.int p5), .val (.int p6), .val (.int (0 : Int32)), .val (.int (0 : Int32)), .val (.ref b203), .val (.ref b204), .val (.ref b206), .val (.ref b213), .unset] [(.int (0 : Int32))])) _
        refine XS.istore X222.here hx rfl (hb hby at_51) rfl (l' := #[.val (.int p1), .val (.int p2), .val (.int p3), .val (.int p4), .val (.int p5), .val (.int p6), .val (.int (0 : Int32)), .val (.int (0 : Int32)), .val (.ref b203), .val (.ref b204), .val (.ref b206), .val (.ref b213), .val (.int (0 : Int32))]) rfl ?_
        show Steps p.tables e below (T222.setTop (mkF m 53 #[.val (.int p1), .val (.int p2), .val (.int p3), .val (.int p4), .val (.int p5), .val (.int p6), .val (.int (0 : Int32)), .val (.int (0 : Int32)), .val (.ref b203), .val (.ref b204), .val (.ref b206), .val (.ref b213), .val (.int (0 : Int32))] [])) _
        refine XS.iload X222.here hx rfl (hb hby at_53) rfl ?_
        show Steps p.tables e below (T222.setTop (mkF m 55 #[.val (.int p1), .val (.int p2), .val (.int p3), .val (.int p4), .val (.int p5), .val (.int p6), .val (.int (0 : Int32)), .val (.int (0 : Int32)), .val (.ref b203), .val (.ref b204), .val (.ref b206), .val (.ref b213), .val (.int (0 : Int32))] [(.int (0 : Int32))])) _
        refine XS.ifYes X222.here hx rfl (pc0 := 55) (pc' := 80) rfl (hb hby at_55) rfl ((if0 _ _).trans (teq (rfl : (0 : Int32) = (0 : Int32))).1) (by decide) (by decide) ?_
        show Steps p.tables e below (T222.setTop (mkF m 80 #[.val (.int p1), .val (.int p2), .val (.int p3), .val (.int p4), .val (.int p5), .val (.int p6), .val (.int (0 : Int32)), .val (.int (0 : Int32)), .val (.ref b203), .val (.ref b204), .val (.ref b206), .val (.ref b213), .val (.int (0 : Int32))] [])) _
        refine XS.iload X222.here hx rfl (hb hby at_80) rfl ?_
        show Steps p.tables e below (T222.setTop (mkF m 82 #[.val (.int p1), .val (.int p2), .val (.int p3), .val (.int p4), .val (.int p5), .val (.int p6), .val (.int (0 : Int32)), .val (.int (0 : Int32)), .val (.ref b203), .val (.ref b204), .val (.ref b206), .val (.ref b213), .val (.int (0 : Int32))] [(.int (0 : Int32))])) _
        refine XS.iconst X222.here hx rfl (hb hby at_82) ?_
        show Steps p.tables e below (T222.setTop (mkF m 83 #[.val (.int p1), .val (.int p2), .val (.int p3), .val (.int p4), .val (.int p5), .val (.int p6), .val (.int (0 : Int32)), .val (.int (0 : Int32)), .val (.ref b203), .val (.ref b204), .val (.ref b206), .val (.ref b213), .val (.int (0 : Int32))] [(.int (1 : Int32)), (.int (0 : Int32))])) _
        refine XS.icmpYes X222.here hx rfl (pc0 := 83) (pc' := 110) rfl (hb hby at_83) rfl (tlt (by decide : ((0 : Int32) < (1 : Int32)))).1 (by decide) (by decide) ?_
        show Steps p.tables e below (T222.setTop (mkF m 110 #[.val (.int p1), .val (.int p2), .val (.int p3), .val (.int p4), .val (.int p5), .val (.int p6), .val (.int (0 : Int32)), .val (.int (0 : Int32)), .val (.ref b203), .val (.ref b204), .val (.ref b206), .val (.ref b213), .val (.int (0 : Int32))] [])) _
        refine XS.iload X222.here hx rfl (hb hby at_110) rfl ?_
        show Steps p.tables e below (T222.setTop (mkF m 112 #[.val (.int p1), .val (.int p2), .val (.int p3), .val (.int p4), .val (.int p5), .val (.int p6), .val (.int (0 : Int32)), .val (.int (0 : Int32)), .val (.ref b203), .val (.ref b204), .val (.ref b206), .val (.ref b213), .val (.int (0 : Int32))] [(.int (0 : Int32))])) _
        refine XS.iconst X222.here hx rfl (hb hby at_112) ?_
        show Steps p.tables e below (T222.setTop (mkF m 113 #[.val (.int p1), .val (.int p2), .val (.int p3), .val (.int p4), .val (.int p5), .val (.int p6), .val (.int (0 : Int32)), .val (.int (0 : Int32)), .val (.ref b203), .val (.ref b204), .val (.ref b206), .val (.ref b213), .val (.int (0 : Int32))] [(.int (2 : Int32)), (.int (0 : Int32))])) _
        refine XS.icmpYes X222.here hx rfl (pc0 := 113) (pc' := 140) rfl (hb hby at_113) rfl (tlt (by decide : ((0 : Int32) < (2 : Int32)))).1 (by decide) (by decide) ?_
        show Steps p.tables e below (T222.setTop (mkF m 140 #[.val (.int p1), .val (.int p2), .val (.int p3), .val (.int p4), .val (.int p5), .val (.int p6), .val (.int (0 : Int32)), .val (.int (0 : Int32)), .val (.ref b203), .val (.ref b204), .val (.ref b206), .val (.ref b213), .val (.int (0 : Int32))] [])) _
        refine XS.aload X222.here hx rfl (hb hby at_140) rfl rfl ?_
        show Steps p.tables e below (T222.setTop (mkF m 142 #[.val (.int p1), .val (.int p2), .val (.int p3), .val (.int p4), .val (.int p5), .val (.int p6), .val (.int (0 : Int32)), .val (.int (0 : Int32)), .val (.ref b203), .val (.ref b204), .val (.ref b206), .val (.ref b213), .val (.int (0 : Int32))] [(.ref b206)])) _
        refine XS.aload X222.here hx rfl (hb hby at_142) rfl rfl ?_
        exact k
      obtain ⟨cq235, kq235, q235a, q235b, q235c⟩ := isOf hZ rfl Q225
      obtain ⟨_, _, ⟨T235, L235, k235, n235⟩, -, X235, ⟨Lc235, hQ235, l235, y235, z235⟩, st235⟩ := X222.virtualBack hx (y := (⟨"com/example/axiomwright/axiomwright/Arcs", "addAll", "(Lcom/example/axiomwright/axiomwright/Arcs;)V"⟩ : MethodName)) (z := (⟨"com/example/axiomwright/axiomwright/Arcs", "addAll", "(Lcom/example/axiomwright/axiomwright/Arcs;)V"⟩ : MethodName)) hown (mvT hZ (hw _ (List.mem_of_getElem? (i := 14) rfl))) (mvT hZ (hw _ (List.mem_of_getElem? (i := 15) rfl))) (notFace_of_selects (args := #[]) (mvT hZ (hw _ (List.mem_of_getElem? (i := 17) rfl)))) (mvT hZ (hw _ (List.mem_of_getElem? (i := 17) rfl))) (mvT hZ (hw _ (List.mem_of_getElem? (i := 16) rfl))) (by decide) (backOf (W := 0) (rm3_0_0 l Z a0 hw [] b206 b213 b1_209 b2_209 b1_222 b2_222 k1_209 k2_209 k1_222 k2_222 (0 : Int32) (0 : Int32) (0 : Int32) (0 : Int32) (0 : Int32) (0 : Int32) (0 : Int32) (0 : Int32) (0 : Int32) (0 : Int32) (0 : Int32) (0 : Int32) (0 : Int32) (0 : Int32) (0 : Int32) (0 : Int32) (0 : Int32) (0 : Int32) (0 : Int32) (0 : Int32) (0 : Int32) (0 : Int32) (0 : Int32) (0 : Int32) (0 : Int32) (0 : Int32) (0 : Int32) (0 : Int32) (0 : Int32) (0 : Int32) (0 : Int32) (0 : Int32) (0 : Int32) (0 : Int32) (0 : Int32) (0 : Int32) (0 : Int32) (0 : Int32) (0 : Int32) (0 : Int32) (0 : Int32) (0 : Int32) (0 : Int32) (0 : Int32) (0 : Int32) (0 : Int32) (0 : Int32) (0 : Int32) (0 : Int32) (0 : Int32) (0 : Int32) (0 : Int32) (0 : Int32) (0 : Int32) (0 : Int32) (0 : Int32) (0 : Int32) (0 : Int32) (0 : Int32) (0 : Int32) (0 : Int32) (0 : Int32) (0 : Int32) (0 : Int32) T222.heap n0 Z222 Q225 Q228 Q226 Q227 Q229 Q230 U222_2 U222_0 U222_1 U222_3 U222_4 low206 low_b1_209 low_b2_209 ne_b206_b1_209 ne_b206_b2_209 pq209_0 (Ne.symm ne213_b206) (Ne.symm ne213_b1_209) (Ne.symm ne213_b2_209) (Ne.symm ne_b206_b1_222) (Ne.symm ne_b1_209_b1_222) (Ne.symm ne_b2_209_b1_222) (Ne.symm ne_b206_b2_222) (Ne.symm ne_b1_209_b2_222) (Ne.symm ne_b2_209_b2_222)) hZ (hw _ (List.mem_of_getElem? (i := 18) rfl)) (hw _ (List.mem_of_getElem? (i := 3) rfl)) (by decide) (by decide)) q235a q235c (g := (mkF m 144 #[.val (.int p1), .val (.int p2), .val (.int p3), .val (.int p4), .val (.int p5), .val (.int p6), .val (.int (0 : Int32)), .val (.int (0 : Int32)), .val (.ref b203), .val (.ref b204), .val (.ref b206), .val (.ref b213), .val (.int (0 : Int32))] [(.ref b213), (.ref b206)])) rfl (by rw [hml]; rfl) (Steps.refl _) (argsL := [(.ref b213)]) (rest := []) (lenOf pd_3 rfl) rfl (by show 2 * 0 + _ ≤ _; exact Nat.le_of_eq rfl) (hb hby at_144) (fun _ _ => ⟨rfl, rfl, (by decide : 8 + 0 ≤ _), (by decide : 76 + 0 ≤ _)⟩)
      dsimp only [Pt.U, Pt.locs, Pt.cells, Pt.slots] at X235 l235 y235 z235 st235 hQ235
      subst l235 y235 z235
      obtain ⟨rfl, Nq235, Kq235, U235_0, U235_1, U235_2, U235_3, U235_4⟩ := hQ235
      have Q236 : Arv Z T235.heap b203 k203 .int (3 : Int32) [(.int (0 : Int32)), (.int (0 : Int32)), (.int (0 : Int32))] (.int (0 : Int32)) := Q223.keep Kq235 (ninS ne206_b203 (ninS ne_b203_b1_209 (ninS ne_b203_b2_209 nin0)))
      have Q237 : Arv Z T235.heap b204 k204 .int (3 : Int32) [(.int (0 : Int32)), (.int (0 : Int32)), (.int (0 : Int32))] (.int (0 : Int32)) := Q224.keep Kq235 (ninS ne206_b204 (ninS ne_b204_b1_209 (ninS ne_b204_b2_209 nin0)))
      have Q238 : Exa Z T235.heap b206 "com/example/axiomwright/axiomwright/Arcs" := Q225.keep Kq235
      have Q239 : Exa Z T235.heap b213 "com/example/axiomwright/axiomwright/Arcs" := Q231.keep Kq235
      have Q240 : Fld Z T235.heap b213 "com/example/axiomwright/axiomwright/Arcs" "from" "[I" (.ref b1_222) := U222_0.keep Kq235 (ninS (Ne.symm ne213_b206) (ninS (Ne.symm ne213_b1_209) (ninS (Ne.symm ne213_b2_209) nin0)))
      have Q241 : Fld Z T235.heap b213 "com/example/axiomwright/axiomwright/Arcs" "to" "[I" (.ref b2_222) := U222_1.keep Kq235 (ninS (Ne.symm ne213_b206) (ninS (Ne.symm ne213_b1_209) (ninS (Ne.symm ne213_b2_209) nin0)))
      have Q242 : Fld Z T235.heap b213 "com/example/axiomwright/axiomwright/Arcs" "size" "I" (.int (0 : Int32)) := U222_2.keep Kq235 (ninS (Ne.symm ne213_b206) (ninS (Ne.symm ne213_b1_209) (ninS (Ne.symm ne213_b2_209) nin0)))
      have Q243 : Arv Z T235.heap b1_222 k1_222 .int (16 : Int32) [(.int (0 : Int32)), (.int (0 : Int32)), (.int (0 : Int32)), (.int (0 : Int32)), (.int (0 : Int32)), (.int (0 : Int32)), (.int (0 : Int32)), (.int (0 : Int32)), (.int (0 : Int32)), (.int (0 : Int32)), (.int (0 : Int32)), (.int (0 : Int32)), (.int (0 : Int32)), (.int (0 : Int32)), (.int (0 : Int32)), (.int (0 : Int32))] (.int (0 : Int32)) := U222_3.keep Kq235 (ninS (Ne.symm ne_b206_b1_222) (ninS (Ne.symm ne_b1_209_b1_222) (ninS (Ne.symm ne_b2_209_b1_222) nin0)))
      have Q244 : Arv Z T235.heap b2_222 k2_222 .int (16 : Int32) [(.int (0 : Int32)), (.int (0 : Int32)), (.int (0 : Int32)), (.int (0 : Int32)), (.int (0 : Int32)), (.int (0 : Int32)), (.int (0 : Int32)), (.int (0 : Int32)), (.int (0 : Int32)), (.int (0 : Int32)), (.int (0 : Int32)), (.int (0 : Int32)), (.int (0 : Int32)), (.int (0 : Int32)), (.int (0 : Int32)), (.int (0 : Int32))] (.int (0 : Int32)) := U222_4.keep Kq235 (ninS (Ne.symm ne_b206_b2_222) (ninS (Ne.symm ne_b1_209_b2_222) (ninS (Ne.symm ne_b2_209_b2_222) nin0)))
      have Z235 : n0 ≤ T235.heap.size := Nat.le_trans Z222 Kq235.1
      have K235 : Keep h0 T235.heap [] := K222.trans Kq235 (allS (Or.inr sz206) (allS (Or.inr sz_b1_209) (allS (Or.inr sz_b2_209) all0)))
      have N235 := Fr.app N222 Nq235
      refine own_go (A := _) (B := T235.setTop (mkF m 147 #[.val (.int p1), .val (.int p2), .val (.int p3), .val (.int p4), .val (.int p5), .val (.int p6), .val (.int (0 : Int32)), .val (.int (0 : Int32)), .val (.ref b203), .val (.ref b204), .val (.ref b206), .val (.ref b213), .val (.int (0 : Int32))] [])) (fun t k => st235.trans k) ?_
      refine own_go (A := T235.setTop (mkF m 147 #[.val (.int p1), .val (.int p2), .val (.int p3), .val (.int p4), .val (.int p5), .val (.int p6), .val (.int (0 : Int32)), .val (.int (0 : Int32)), .val (.ref b203), .val (.ref b204), .val (.ref b206), .val (.ref b213), .val (.int (0 : Int32))] [])) (B := T235.setTop (mkF m 149 #[.val (.int p1), .val (.int p2), .val (.int p3), .val (.int p4), .val (.int p5), .val (.int p6), .val (.int (0 : Int32)), .val (.int (0 : Int32)), .val (.ref b203), .val (.ref b204), .val (.ref b206), .val (.ref b213), .val (.int (0 : Int32))] [(.ref b206)])) (fun t k => ?_) ?_
      · show Steps p.tables e below (T235.setTop (mkF m 147 #[.val (.int p1), .val (.int p2), .val (.int p3), .val (.int p4), .val (.int p5), .val (.int p6), .val (.int (0 : Int32)), .val (.int (0 : Int32)), .val (.ref b203), .val (.ref b204), .val (.ref b206), .val (.ref b213), .val (.int (0 : Int32))] [])) _
        refine XS.aload X235.here hx rfl (hb hby at_147) rfl rfl ?_
        exact k
      obtain ⟨cq245, kq245, q245a, q245b, q245c⟩ := isOf hZ rfl Q238
      obtain ⟨_, _, ⟨T245, L245, k245, n245⟩, -, X245, ⟨Lc245, hQ245, l245, y245, z245⟩, st245⟩ := X235.virtualBack hx (y := (⟨"com/example/axiomwright/axiomwright/Arcs", "size", "()I"⟩ : MethodName)) (z := (⟨"com/example/axiomwright/axiomwright/Arcs", "size", "()I"⟩ : MethodName)) hown (mvT hZ (hw _ (List.mem_of_getElem? (i := 21) rfl))) (mvT hZ (hw _ (List.mem_of_getElem? (i := 22) rfl))) (notFace_of_selects (args := #[]) (mvT hZ (hw _ (List.mem_of_getElem? (i := 24) rfl)))) (mvT hZ (hw _ (List.mem_of_getElem? (i := 24) rfl))) (mvT hZ (hw _ (List.mem_of_getElem? (i := 23) rfl))) (by decide) (backOf (W := 0) (rm4 l Z a0 hw [] b206 (0 : Int32) T235.heap n0 Z235 U235_0) hZ (hw _ (List.mem_of_getElem? (i := 25) rfl)) (hw _ (List.mem_of_getElem? (i := 3) rfl)) (by decide) (by decide)) q245a q245c (g := (mkF m 149 #[.val (.int p1), .val (.int p2), .val (.int p3), .val (.int p4), .val (.int p5), .val (.int p6), .val (.int (0 : Int32)), .val (.int (0 : Int32)), .val (.ref b203), .val (.ref b204), .val (.ref b206), .val (.ref b213), .val (.int (0 : Int32))] [(.ref b206)])) rfl (by rw [hml]; rfl) (Steps.refl _) (argsL := []) (rest := []) (lenOf pd_4 rfl) rfl (by show 2 * 0 + _ ≤ _; exact Nat.le_of_eq rfl) (hb hby at_149) (fun _ _ => ⟨rfl, rfl, (by decide : 8 + 0 ≤ _), (by decide : 76 + 0 ≤ _)⟩)
      dsimp only [Pt.U, Pt.locs, Pt.cells, Pt.slots] at X245 l245 y245 z245 st245 hQ245
      subst l245 y245 z245
      obtain ⟨rfl, Nq245, e245⟩ := hQ245
      have N245 := Fr.app N235 Nq245
      refine own_go (A := _) (B := T245.setTop (mkF m 152 #[.val (.int p1), .val (.int p2), .val (.int p3), .val (.int p4), .val (.int p5), .val (.int p6), .val (.int (0 : Int32)), .val (.int (0 : Int32)), .val (.ref b203), .val (.ref b204), .val (.ref b206), .val (.ref b213), .val (.int (0 : Int32))] [(.int (0 : Int32))])) (fun t k => st245.trans k) ?_
      refine own_go (A := T245.setTop (mkF m 152 #[.val (.int p1), .val (.int p2), .val (.int p3), .val (.int p4), .val (.int p5), .val (.int p6), .val (.int (0 : Int32)), .val (.int (0 : Int32)), .val (.ref b203), .val (.ref b204), .val (.ref b206), .val (.ref b213), .val (.int (0 : Int32))] [(.int (0 : Int32))])) (B := T245.setTop (mkF m 161 #[.val (.int p1), .val (.int p2), .val (.int p3), .val (.int p4), .val (.int p5), .val (.int p6), .val (.int (0 : Int32)), .val (.int (0 : Int32)), .val (.ref b203), .val (.ref b204), .val (.ref b206), .val (.ref b213), .val (.int (0 : Int32))] [(.ref b213)])) (fun t k => ?_) ?_
      · show Steps p.tables e below (T245.setTop (mkF m 152 #[.val (.int p1), .val (.int p2), .val (.int p3), .val (.int p4), .val (.int p5), .val (.int p6), .val (.int (0 : Int32)), .val (.int (0 : Int32)), .val (.ref b203), .val (.ref b204), .val (.ref b206), .val (.ref b213), .val (.int (0 : Int32))] [(.int (0 : Int32))])) _
        refine XS.iload X245.here hx rfl (hb hby at_152) rfl ?_
        show Steps p.tables e below (T245.setTop (mkF m 154 #[.val (.int p1), .val (.int p2), .val (.int p3), .val (.int p4), .val (.int p5), .val (.int p6), .val (.int (0 : Int32)), .val (.int (0 : Int32)), .val (.ref b203), .val (.ref b204), .val (.ref b206), .val (.ref b213), .val (.int (0 : Int32))] [(.int (0 : Int32)), (.int (0 : Int32))])) _
        refine XS.icmpYes X245.here hx rfl (pc0 := 154) (pc' := 159) rfl (hb hby at_154) rfl (teq (rfl : (0 : Int32) = (0 : Int32))).1 (by decide) (by decide) ?_
        show Steps p.tables e below (T245.setTop (mkF m 159 #[.val (.int p1), .val (.int p2), .val (.int p3), .val (.int p4), .val (.int p5), .val (.int p6), .val (.int (0 : Int32)), .val (.int (0 : Int32)), .val (.ref b203), .val (.ref b204), .val (.ref b206), .val (.ref b213), .val (.int (0 : Int32))] [])) _
        refine XS.aload X245.here hx rfl (hb hby at_159) rfl rfl ?_
        exact k
      obtain ⟨cq247, kq247, q247a, q247b, q247c⟩ := isOf hZ e245 Q239
      obtain ⟨_, _, ⟨T247, L247, k247, n247⟩, -, X247, ⟨Lc247, hQ247, l247, y247, z247⟩, st247⟩ := X245.virtualBack hx (y := (⟨"com/example/axiomwright/axiomwright/Arcs", "size", "()I"⟩ : MethodName)) (z := (⟨"com/example/axiomwright/axiomwright/Arcs", "size", "()I"⟩ : MethodName)) hown (mvT hZ (hw _ (List.mem_of_getElem? (i := 21) rfl))) (mvT hZ (hw _ (List.mem_of_getElem? (i := 22) rfl))) (notFace_of_selects (args := #[]) (mvT hZ (hw _ (List.mem_of_getElem? (i := 24) rfl)))) (mvT hZ (hw _ (List.mem_of_getElem? (i := 24) rfl))) (mvT hZ (hw _ (List.mem_of_getElem? (i := 23) rfl))) (by decide) (backOf (W := 0) (rm4 l Z a0 hw [] b213 (0 : Int32) T235.heap n0 Z235 Q242) hZ (hw _ (List.mem_of_getElem? (i := 25) rfl)) (hw _ (List.mem_of_getElem? (i := 3) rfl)) (by decide) (by decide)) q247a q247c (g := (mkF m 161 #[.val (.int p1), .val (.int p2), .val (.int p3), .val (.int p4), .val (.int p5), .val (.int p6), .val (.int (0 : Int32)), .val (.int (0 : Int32)), .val (.ref b203), .val (.ref b204), .val (.ref b206), .val (.ref b213), .val (.int (0 : Int32))] [(.ref b213)])) rfl (by rw [hml]; rfl) (Steps.refl _) (argsL := []) (rest := []) (lenOf pd_4 rfl) rfl (by show 2 * 0 + _ ≤ _; exact Nat.le_of_eq rfl) (hb hby at_161) (fun _ _ => ⟨rfl, e245, (by decide : 8 + 0 ≤ _), (by decide : 76 + 0 ≤ _)⟩)
      dsimp only [Pt.U, Pt.locs, Pt.cells, Pt.slots] at X247 l247 y247 z247 st247 hQ247
      subst l247 y247 z247
      obtain ⟨rfl, Nq247, e247⟩ := hQ247
      have N247 := Fr.app N245 Nq247
      refine own_go (A := _) (B := T247.setTop (mkF m 164 #[.val (.int p1), .val (.int p2), .val (.int p3), .val (.int p4), .val (.int p5), .val (.int p6), .val (.int (0 : Int32)), .val (.int (0 : Int32)), .val (.ref b203), .val (.ref b204), .val (.ref b206), .val (.ref b213), .val (.int (0 : Int32))] [(.int (0 : Int32))])) (fun t k => st247.trans k) ?_
      refine own_go (A := T247.setTop (mkF m 164 #[.val (.int p1), .val (.int p2), .val (.int p3), .val (.int p4), .val (.int p5), .val (.int p6), .val (.int (0 : Int32)), .val (.int (0 : Int32)), .val (.ref b203), .val (.ref b204), .val (.ref b206), .val (.ref b213), .val (.int (0 : Int32))] [(.int (0 : Int32))])) (B := T247.setTop (mkF m 180 #[.val (.int p1), .val (.int p2), .val (.int p3), .val (.int p4), .val (.int p5), .val (.int p6), .val (.int (0 : Int32)), .val (.int (0 : Int32)), .val (.ref b203), .val (.ref b204), .val (.ref b206), .val (.ref b213), .val (.int (0 : Int32))] [(.ref b204), (.ref b203), (.int (0 : Int32)), (.int (0 : Int32)), (.ref b206)])) (fun t k => ?_) ?_
      · show Steps p.tables e below (T247.setTop (mkF m 164 #[.val (.int p1), .val (.int p2), .val (.int p3), .val (.int p4), .val (.int p5), .val (.int p6), .val (.int (0 : Int32)), .val (.int (0 : Int32)), .val (.ref b203), .val (.ref b204), .val (.ref b206), .val (.ref b213), .val (.int (0 : Int32))] [(.int (0 : Int32))])) _
        refine XS.iload X247.here hx rfl (hb hby at_164) rfl ?_
        show Steps p.tables e below (T247.setTop (mkF m 166 #[.val (.int p1), .val (.int p2), .val (.int p3), .val (.int p4), .val (.int p5), .val (.int p6), .val (.int (0 : Int32)), .val (.int (0 : Int32)), .val (.ref b203), .val (.ref b204), .val (.ref b206), .val (.ref b213), .val (.int (0 : Int32))] [(.int (0 : Int32)), (.int (0 : Int32))])) _
        refine XS.icmpYes X247.here hx rfl (pc0 := 166) (pc' := 171) rfl (hb hby at_166) rfl (teq (rfl : (0 : Int32) = (0 : Int32))).1 (by decide) (by decide) ?_
        show Steps p.tables e below (T247.setTop (mkF m 171 #[.val (.int p1), .val (.int p2), .val (.int p3), .val (.int p4), .val (.int p5), .val (.int p6), .val (.int (0 : Int32)), .val (.int (0 : Int32)), .val (.ref b203), .val (.ref b204), .val (.ref b206), .val (.ref b213), .val (.int (0 : Int32))] [])) _
        refine XS.aload X247.here hx rfl (hb hby at_171) rfl rfl ?_
        show Steps p.tables e below (T247.setTop (mkF m 173 #[.val (.int p1), .val (.int p2), .val (.int p3), .val (.int p4), .val (.int p5), .val (.int p6), .val (.int (0 : Int32)), .val (.int (0 : Int32)), .val (.ref b203), .val (.ref b204), .val (.ref b206), .val (.ref b213), .val (.int (0 : Int32))] [(.ref b206)])) _
        refine XS.iconst X247.here hx rfl (hb hby at_173) ?_
        show Steps p.tables e below (T247.setTop (mkF m 174 #[.val (.int p1), .val (.int p2), .val (.int p3), .val (.int p4), .val (.int p5), .val (.int p6), .val (.int (0 : Int32)), .val (.int (0 : Int32)), .val (.ref b203), .val (.ref b204), .val (.ref b206), .val (.ref b213), .val (.int (0 : Int32))] [(.int (0 : Int32)), (.ref b206)])) _
        refine XS.iload X247.here hx rfl (hb hby at_174) rfl ?_
        show Steps p.tables e below (T247.setTop (mkF m 176 #[.val (.int p1), .val (.int p2), .val (.int p3), .val (.int p4), .val (.int p5), .val (.int p6), .val (.int (0 : Int32)), .val (.int (0 : Int32)), .val (.ref b203), .val (.ref b204), .val (.ref b206), .val (.ref b213), .val (.int (0 : Int32))] [(.int (0 : Int32)), (.int (0 : Int32)), (.ref b206)])) _
        refine XS.aload X247.here hx rfl (hb hby at_176) rfl rfl ?_
        show Steps p.tables e below (T247.setTop (mkF m 178 #[.val (.int p1), .val (.int p2), .val (.int p3), .val (.int p4), .val (.int p5), .val (.int p6), .val (.int (0 : Int32)), .val (.int (0 : Int32)), .val (.ref b203), .val (.ref b204), .val (.ref b206), .val (.ref b213), .val (.int (0 : Int32))] [(.ref b203), (.int (0 : Int32)), (.int (0 : Int32)), (.ref b206)])) _
        refine XS.aload X247.here hx rfl (hb hby at_178) rfl rfl ?_
        exact k
      obtain ⟨_, _, ⟨T249, L249, k249, n249⟩, -, X249, ⟨Lc249, hQ249, l249, y249, z249⟩, st249⟩ := Jvm.LawKit.callS X247 hx (y := (⟨"com/example/axiomwright/axiomwright/ArcsAddAllPinLaw", "at", "(Lcom/example/axiomwright/axiomwright/Arcs;II[I[I)Z"⟩ : MethodName)) hown (mvT hZ (hw _ (List.mem_of_getElem? (i := 26) rfl))) (mvT hZ (hw _ (List.mem_of_getElem? (i := 27) rfl))) (mvT hZ (hw _ (List.mem_of_getElem? (i := 28) rfl))) (mvT hZ (hw _ (List.mem_of_getElem? (i := 29) rfl))) (by decide) (backOf (W := 0) (rm5_0_0 l Z a0 hw [] b206 b203 b204 T235.heap n0 Z235 ) hZ (hw _ (List.mem_of_getElem? (i := 29) rfl)) (hw _ (List.mem_of_getElem? (i := 28) rfl)) (by decide) (by decide)) (g := (mkF m 180 #[.val (.int p1), .val (.int p2), .val (.int p3), .val (.int p4), .val (.int p5), .val (.int p6), .val (.int (0 : Int32)), .val (.int (0 : Int32)), .val (.ref b203), .val (.ref b204), .val (.ref b206), .val (.ref b213), .val (.int (0 : Int32))] [(.ref b204), (.ref b203), (.int (0 : Int32)), (.int (0 : Int32)), (.ref b206)])) rfl (by rw [hml]; rfl) (argsL := [(.ref b206), (.int (0 : Int32)), (.int (0 : Int32)), (.ref b203), (.ref b204)]) (rest := []) (lenOf pd_5 rfl) rfl (by show 2 * 0 + _ ≤ _; exact Nat.le_of_eq rfl) (hb hby at_180) (fun _ _ => ⟨rfl, e247, (by decide : 8 + 0 ≤ _), (by decide : 76 + 0 ≤ _)⟩)
      dsimp only [Pt.U, Pt.locs, Pt.cells, Pt.slots] at X249 l249 y249 z249 st249 hQ249
      subst l249 y249 z249
      obtain ⟨rfl, Nq249, e249⟩ := hQ249
      have N249 := Fr.app N247 Nq249
      refine own_go (A := _) (B := T249.setTop (mkF m 183 #[.val (.int p1), .val (.int p2), .val (.int p3), .val (.int p4), .val (.int p5), .val (.int p6), .val (.int (0 : Int32)), .val (.int (0 : Int32)), .val (.ref b203), .val (.ref b204), .val (.ref b206), .val (.ref b213), .val (.int (0 : Int32))] [(.int (1 : Int32))])) st249 ?_
      refine own_go (A := T249.setTop (mkF m 183 #[.val (.int p1), .val (.int p2), .val (.int p3), .val (.int p4), .val (.int p5), .val (.int p6), .val (.int (0 : Int32)), .val (.int (0 : Int32)), .val (.ref b203), .val (.ref b204), .val (.ref b206), .val (.ref b213), .val (.int (0 : Int32))] [(.int (1 : Int32))])) (B := T249.setTop (mkF m 195 #[.val (.int p1), .val (.int p2), .val (.int p3), .val (.int p4), .val (.int p5), .val (.int p6), .val (.int (0 : Int32)), .val (.int (0 : Int32)), .val (.ref b203), .val (.ref b204), .val (.ref b206), .val (.ref b213), .val (.int (0 : Int32))] [(.ref b204), (.ref b203), (.int (0 : Int32)), (.int (1 : Int32)), (.ref b206)])) (fun t k => ?_) ?_
      · show Steps p.tables e below (T249.setTop (mkF m 183 #[.val (.int p1), .val (.int p2), .val (.int p3), .val (.int p4), .val (.int p5), .val (.int p6), .val (.int (0 : Int32)), .val (.int (0 : Int32)), .val (.ref b203), .val (.ref b204), .val (.ref b206), .val (.ref b213), .val (.int (0 : Int32))] [(.int (1 : Int32))])) _
        refine XS.ifNo X249.here hx rfl (hb hby at_183) rfl ((if0 _ _).trans (feq (by decide : ¬ ((1 : Int32) = (0 : Int32)))).1) ?_
        show Steps p.tables e below (T249.setTop (mkF m 186 #[.val (.int p1), .val (.int p2), .val (.int p3), .val (.int p4), .val (.int p5), .val (.int p6), .val (.int (0 : Int32)), .val (.int (0 : Int32)), .val (.ref b203), .val (.ref b204), .val (.ref b206), .val (.ref b213), .val (.int (0 : Int32))] [])) _
        refine XS.aload X249.here hx rfl (hb hby at_186) rfl rfl ?_
        show Steps p.tables e below (T249.setTop (mkF m 188 #[.val (.int p1), .val (.int p2), .val (.int p3), .val (.int p4), .val (.int p5), .val (.int p6), .val (.int (0 : Int32)), .val (.int (0 : Int32)), .val (.ref b203), .val (.ref b204), .val (.ref b206), .val (.ref b213), .val (.int (0 : Int32))] [(.ref b206)])) _
        refine XS.iconst X249.here hx rfl (hb hby at_188) ?_
        show Steps p.tables e below (T249.setTop (mkF m 189 #[.val (.int p1), .val (.int p2), .val (.int p3), .val (.int p4), .val (.int p5), .val (.int p6), .val (.int (0 : Int32)), .val (.int (0 : Int32)), .val (.ref b203), .val (.ref b204), .val (.ref b206), .val (.ref b213), .val (.int (0 : Int32))] [(.int (1 : Int32)), (.ref b206)])) _
        refine XS.iload X249.here hx rfl (hb hby at_189) rfl ?_
        show Steps p.tables e below (T249.setTop (mkF m 191 #[.val (.int p1), .val (.int p2), .val (.int p3), .val (.int p4), .val (.int p5), .val (.int p6), .val (.int (0 : Int32)), .val (.int (0 : Int32)), .val (.ref b203), .val (.ref b204), .val (.ref b206), .val (.ref b213), .val (.int (0 : Int32))] [(.int (0 : Int32)), (.int (1 : Int32)), (.ref b206)])) _
        refine XS.aload X249.here hx rfl (hb hby at_191) rfl rfl ?_
        show Steps p.tables e below (T249.setTop (mkF m 193 #[.val (.int p1), .val (.int p2), .val (.int p3), .val (.int p4), .val (.int p5), .val (.int p6), .val (.int (0 : Int32)), .val (.int (0 : Int32)), .val (.ref b203), .val (.ref b204), .val (.ref b206), .val (.ref b213), .val (.int (0 : Int32))] [(.ref b203), (.int (0 : Int32)), (.int (1 : Int32)), (.ref b206)])) _
        refine XS.aload X249.here hx rfl (hb hby at_193) rfl rfl ?_
        exact k
      obtain ⟨_, _, ⟨T251, L251, k251, n251⟩, -, X251, ⟨Lc251, hQ251, l251, y251, z251⟩, st251⟩ := Jvm.LawKit.callS X249 hx (y := (⟨"com/example/axiomwright/axiomwright/ArcsAddAllPinLaw", "at", "(Lcom/example/axiomwright/axiomwright/Arcs;II[I[I)Z"⟩ : MethodName)) hown (mvT hZ (hw _ (List.mem_of_getElem? (i := 26) rfl))) (mvT hZ (hw _ (List.mem_of_getElem? (i := 27) rfl))) (mvT hZ (hw _ (List.mem_of_getElem? (i := 28) rfl))) (mvT hZ (hw _ (List.mem_of_getElem? (i := 29) rfl))) (by decide) (backOf (W := 0) (rm5_1_0 l Z a0 hw [] b206 b203 b204 T235.heap n0 Z235 ) hZ (hw _ (List.mem_of_getElem? (i := 29) rfl)) (hw _ (List.mem_of_getElem? (i := 28) rfl)) (by decide) (by decide)) (g := (mkF m 195 #[.val (.int p1), .val (.int p2), .val (.int p3), .val (.int p4), .val (.int p5), .val (.int p6), .val (.int (0 : Int32)), .val (.int (0 : Int32)), .val (.ref b203), .val (.ref b204), .val (.ref b206), .val (.ref b213), .val (.int (0 : Int32))] [(.ref b204), (.ref b203), (.int (0 : Int32)), (.int (1 : Int32)), (.ref b206)])) rfl (by rw [hml]; rfl) (argsL := [(.ref b206), (.int (1 : Int32)), (.int (0 : Int32)), (.ref b203), (.ref b204)]) (rest := []) (lenOf pd_5 rfl) rfl (by show 2 * 0 + _ ≤ _; exact Nat.le_of_eq rfl) (hb hby at_195) (fun _ _ => ⟨rfl, e249, (by decide : 8 + 0 ≤ _), (by decide : 76 + 0 ≤ _)⟩)
      dsimp only [Pt.U, Pt.locs, Pt.cells, Pt.slots] at X251 l251 y251 z251 st251 hQ251
      subst l251 y251 z251
      obtain ⟨rfl, Nq251, e251⟩ := hQ251
      have N251 := Fr.app N249 Nq251
      refine own_go (A := _) (B := T251.setTop (mkF m 198 #[.val (.int p1), .val (.int p2), .val (.int p3), .val (.int p4), .val (.int p5), .val (.int p6), .val (.int (0 : Int32)), .val (.int (0 : Int32)), .val (.ref b203), .val (.ref b204), .val (.ref b206), .val (.ref b213), .val (.int (0 : Int32))] [(.int (1 : Int32))])) st251 ?_
      refine own_go (A := T251.setTop (mkF m 198 #[.val (.int p1), .val (.int p2), .val (.int p3), .val (.int p4), .val (.int p5), .val (.int p6), .val (.int (0 : Int32)), .val (.int (0 : Int32)), .val (.ref b203), .val (.ref b204), .val (.ref b206), .val (.ref b213), .val (.int (0 : Int32))] [(.int (1 : Int32))])) (B := T251.setTop (mkF m 210 #[.val (.int p1), .val (.int p2), .val (.int p3), .val (.int p4), .val (.int p5), .val (.int p6), .val (.int (0 : Int32)), .val (.int (0 : Int32)), .val (.ref b203), .val (.ref b204), .val (.ref b206), .val (.ref b213), .val (.int (0 : Int32))] [(.ref b204), (.ref b203), (.int (0 : Int32)), (.int (2 : Int32)), (.ref b206)])) (fun t k => ?_) ?_
      · show Steps p.tables e below (T251.setTop (mkF m 198 #[.val (.int p1), .val (.int p2), .val (.int p3), .val (.int p4), .val (.int p5), .val (.int p6), .val (.int (0 : Int32)), .val (.int (0 : Int32)), .val (.ref b203), .val (.ref b204), .val (.ref b206), .val (.ref b213), .val (.int (0 : Int32))] [(.int (1 : Int32))])) _
        refine XS.ifNo X251.here hx rfl (hb hby at_198) rfl ((if0 _ _).trans (feq (by decide : ¬ ((1 : Int32) = (0 : Int32)))).1) ?_
        show Steps p.tables e below (T251.setTop (mkF m 201 #[.val (.int p1), .val (.int p2), .val (.int p3), .val (.int p4), .val (.int p5), .val (.int p6), .val (.int (0 : Int32)), .val (.int (0 : Int32)), .val (.ref b203), .val (.ref b204), .val (.ref b206), .val (.ref b213), .val (.int (0 : Int32))] [])) _
        refine XS.aload X251.here hx rfl (hb hby at_201) rfl rfl ?_
        show Steps p.tables e below (T251.setTop (mkF m 203 #[.val (.int p1), .val (.int p2), .val (.int p3), .val (.int p4), .val (.int p5), .val (.int p6), .val (.int (0 : Int32)), .val (.int (0 : Int32)), .val (.ref b203), .val (.ref b204), .val (.ref b206), .val (.ref b213), .val (.int (0 : Int32))] [(.ref b206)])) _
        refine XS.iconst X251.here hx rfl (hb hby at_203) ?_
        show Steps p.tables e below (T251.setTop (mkF m 204 #[.val (.int p1), .val (.int p2), .val (.int p3), .val (.int p4), .val (.int p5), .val (.int p6), .val (.int (0 : Int32)), .val (.int (0 : Int32)), .val (.ref b203), .val (.ref b204), .val (.ref b206), .val (.ref b213), .val (.int (0 : Int32))] [(.int (2 : Int32)), (.ref b206)])) _
        refine XS.iload X251.here hx rfl (hb hby at_204) rfl ?_
        show Steps p.tables e below (T251.setTop (mkF m 206 #[.val (.int p1), .val (.int p2), .val (.int p3), .val (.int p4), .val (.int p5), .val (.int p6), .val (.int (0 : Int32)), .val (.int (0 : Int32)), .val (.ref b203), .val (.ref b204), .val (.ref b206), .val (.ref b213), .val (.int (0 : Int32))] [(.int (0 : Int32)), (.int (2 : Int32)), (.ref b206)])) _
        refine XS.aload X251.here hx rfl (hb hby at_206) rfl rfl ?_
        show Steps p.tables e below (T251.setTop (mkF m 208 #[.val (.int p1), .val (.int p2), .val (.int p3), .val (.int p4), .val (.int p5), .val (.int p6), .val (.int (0 : Int32)), .val (.int (0 : Int32)), .val (.ref b203), .val (.ref b204), .val (.ref b206), .val (.ref b213), .val (.int (0 : Int32))] [(.ref b203), (.int (0 : Int32)), (.int (2 : Int32)), (.ref b206)])) _
        refine XS.aload X251.here hx rfl (hb hby at_208) rfl rfl ?_
        exact k
      obtain ⟨_, _, ⟨T253, L253, k253, n253⟩, -, X253, ⟨Lc253, hQ253, l253, y253, z253⟩, st253⟩ := Jvm.LawKit.callS X251 hx (y := (⟨"com/example/axiomwright/axiomwright/ArcsAddAllPinLaw", "at", "(Lcom/example/axiomwright/axiomwright/Arcs;II[I[I)Z"⟩ : MethodName)) hown (mvT hZ (hw _ (List.mem_of_getElem? (i := 26) rfl))) (mvT hZ (hw _ (List.mem_of_getElem? (i := 27) rfl))) (mvT hZ (hw _ (List.mem_of_getElem? (i := 28) rfl))) (mvT hZ (hw _ (List.mem_of_getElem? (i := 29) rfl))) (by decide) (backOf (W := 0) (rm5_2_0 l Z a0 hw [] b206 b203 b204 T235.heap n0 Z235 ) hZ (hw _ (List.mem_of_getElem? (i := 29) rfl)) (hw _ (List.mem_of_getElem? (i := 28) rfl)) (by decide) (by decide)) (g := (mkF m 210 #[.val (.int p1), .val (.int p2), .val (.int p3), .val (.int p4), .val (.int p5), .val (.int p6), .val (.int (0 : Int32)), .val (.int (0 : Int32)), .val (.ref b203), .val (.ref b204), .val (.ref b206), .val (.ref b213), .val (.int (0 : Int32))] [(.ref b204), (.ref b203), (.int (0 : Int32)), (.int (2 : Int32)), (.ref b206)])) rfl (by rw [hml]; rfl) (argsL := [(.ref b206), (.int (2 : Int32)), (.int (0 : Int32)), (.ref b203), (.ref b204)]) (rest := []) (lenOf pd_5 rfl) rfl (by show 2 * 0 + _ ≤ _; exact Nat.le_of_eq rfl) (hb hby at_210) (fun _ _ => ⟨rfl, e251, (by decide : 8 + 0 ≤ _), (by decide : 76 + 0 ≤ _)⟩)
      dsimp only [Pt.U, Pt.locs, Pt.cells, Pt.slots] at X253 l253 y253 z253 st253 hQ253
      subst l253 y253 z253
      obtain ⟨rfl, Nq253, e253⟩ := hQ253
      have N253 := Fr.app N251 Nq253
      refine own_go (A := _) (B := T253.setTop (mkF m 213 #[.val (.int p1), .val (.int p2), .val (.int p3), .val (.int p4), .val (.int p5), .val (.int p6), .val (.int (0 : Int32)), .val (.int (0 : Int32)), .val (.ref b203), .val (.ref b204), .val (.ref b206), .val (.ref b213), .val (.int (0 : Int32))] [(.int (1 : Int32))])) st253 ?_
      refine own_go (A := T253.setTop (mkF m 213 #[.val (.int p1), .val (.int p2), .val (.int p3), .val (.int p4), .val (.int p5), .val (.int p6), .val (.int (0 : Int32)), .val (.int (0 : Int32)), .val (.ref b203), .val (.ref b204), .val (.ref b206), .val (.ref b213), .val (.int (0 : Int32))] [(.int (1 : Int32))])) (B := T253.setTop (mkF m 221 #[.val (.int p1), .val (.int p2), .val (.int p3), .val (.int p4), .val (.int p5), .val (.int p6), .val (.int (0 : Int32)), .val (.int (0 : Int32)), .val (.ref b203), .val (.ref b204), .val (.ref b206), .val (.ref b213), .val (.int (0 : Int32))] [(.int (1 : Int32))])) (fun t k => ?_) ?_
      · show Steps p.tables e below (T253.setTop (mkF m 213 #[.val (.int p1), .val (.int p2), .val (.int p3), .val (.int p4), .val (.int p5), .val (.int p6), .val (.int (0 : Int32)), .val (.int (0 : Int32)), .val (.ref b203), .val (.ref b204), .val (.ref b206), .val (.ref b213), .val (.int (0 : Int32))] [(.int (1 : Int32))])) _
        refine XS.ifNo X253.here hx rfl (hb hby at_213) rfl ((if0 _ _).trans (feq (by decide : ¬ ((1 : Int32) = (0 : Int32)))).1) ?_
        show Steps p.tables e below (T253.setTop (mkF m 216 #[.val (.int p1), .val (.int p2), .val (.int p3), .val (.int p4), .val (.int p5), .val (.int p6), .val (.int (0 : Int32)), .val (.int (0 : Int32)), .val (.ref b203), .val (.ref b204), .val (.ref b206), .val (.ref b213), .val (.int (0 : Int32))] [])) _
        refine XS.iconst X253.here hx rfl (hb hby at_216) ?_
        show Steps p.tables e below (T253.setTop (mkF m 217 #[.val (.int p1), .val (.int p2), .val (.int p3), .val (.int p4), .val (.int p5), .val (.int p6), .val (.int (0 : Int32)), .val (.int (0 : Int32)), .val (.ref b203), .val (.ref b204), .val (.ref b206), .val (.ref b213), .val (.int (0 : Int32))] [(.int (1 : Int32))])) _
        refine XS.goto X253.here hx rfl (pc0 := 217) (pc' := 221) rfl (hb hby at_217) (by decide) (by decide) ?_
        exact k
      obtain ⟨fs, hr, hrun, hended, hW, hsame⟩ := X253.leave (v := some (.int (1 : Int32))) (fun h => by rw [Bd.returns] at h; cases h)
      refine ⟨_, _, ?_, hrun, hended, _, _, rfl, ?_, ⟨_, rfl⟩, hW, hsame.mono (by decide) (by decide)⟩
      · show Steps p.tables e below (T253.setTop (mkF m 221 #[.val (.int p1), .val (.int p2), .val (.int p3), .val (.int p4), .val (.int p5), .val (.int p6), .val (.int (0 : Int32)), .val (.int (0 : Int32)), .val (.ref b203), .val (.ref b204), .val (.ref b206), .val (.ref b213), .val (.int (0 : Int32))] [(.int (1 : Int32))])) _
        exact retN X253 hx (t := .boolean) Bd.returns (by simp) (hb hby at_221) hr
      · show Qrm0 Z p1 p2 p3 p4 p5 p6 h0 n0 _ T253.heap _
        rw [e253]
        exact ⟨rfl, N253⟩
    · rw [hk202]
      refine own_go (A := s₁.setTop (mkF m 20 #[.val (.int p1), .val (.int p2), .val (.int p3), .val (.int p4), .val (.int p5), .val (.int p6), .val (.int (0 : Int32)), .unset, .unset, .unset, .unset, .unset, .unset] [(.int (1 : Int32))])) (B := s₁.setTop (mkF m 23 #[.val (.int p1), .val (.int p2), .val (.int p3), .val (.int p4), .val (.int p5), .val (.int p6), .val (.int (0 : Int32)), .val (.int (1 : Int32)), .unset, .unset, .unset, .unset, .unset] [(.int (3 : Int32))])) (fun t k => ?_) ?_
      · show Steps p.tables e below (s₁.setTop (mkF m 20 #[.val (.int p1), .val (.int p2), .val (.int p3), .val (.int p4), .val (.int p5), .val (.int p6), .val (.int (0 : Int32)), .unset, .unset, .unset, .unset, .unset, .unset] [(.int (1 : Int32))])) _
        refine XS.istore X0.here hx rfl (hb hby at_20) rfl (l' := #[.val (.int p1), .val (.int p2), .val (.int p3), .val (.int p4), .val (.int p5), .val (.int p6), .val (.int (0 : Int32)), .val (.int (1 : Int32)), .unset, .unset, .unset, .unset, .unset]) rfl ?_
        show Steps p.tables e below (s₁.setTop (mkF m 22 #[.val (.int p1), .val (.int p2), .val (.int p3), .val (.int p4), .val (.int p5), .val (.int p6), .val (.int (0 : Int32)), .val (.int (1 : Int32)), .unset, .unset, .unset, .unset, .unset] [])) _
        refine XS.iconst X0.here hx rfl (hb hby at_22) ?_
        exact k
      obtain ⟨T255, h255, k255, X255, e255, E255, A255, st255⟩ := newP X0 hx hZ (hw _ (List.mem_of_getElem? (i := 0) rfl)) e0 (g := (mkF m 23 #[.val (.int p1), .val (.int p2), .val (.int p3), .val (.int p4), .val (.int p5), .val (.int p6), .val (.int (0 : Int32)), .val (.int (1 : Int32)), .unset, .unset, .unset, .unset, .unset] [(.int (3 : Int32))])) rfl (hb hby at_23) rfl (by decide) (cap := 3) (by decide) (by decide) (by decide) (by decide)
      obtain ⟨b255, g255⟩ : ∃ z, z = h0.size := ⟨_, rfl⟩
      rw [← g255] at A255 st255
      have low255 : n0 ≤ b255 := Nat.le_trans Z0 (Nat.le_of_eq g255.symm)
      have sz255 : h0.size ≤ b255 := Nat.le_trans K0.1 (Nat.le_of_eq g255.symm)
      have Z255 : n0 ≤ h255.size := Nat.le_trans Z0 E255.1
      have K255 := K0.ext E255
      have V255 : Arv Z h255 b255 k255 .int (3 : Int32) [(.int (0 : Int32)), (.int (0 : Int32)), (.int (0 : Int32))] (.int (0 : Int32)) := (Arv.new A255 (by decide)).pad (pad_rep [] (.int (0 : Int32)) 3)
      refine own_go st255 ?_
      refine own_go (A := T255.setTop (mkF m 25 #[.val (.int p1), .val (.int p2), .val (.int p3), .val (.int p4), .val (.int p5), .val (.int p6), .val (.int (0 : Int32)), .val (.int (1 : Int32)), .unset, .unset, .unset, .unset, .unset] [(.ref b255)])) (B := T255.setTop (mkF m 28 #[.val (.int p1), .val (.int p2), .val (.int p3), .val (.int p4), .val (.int p5), .val (.int p6), .val (.int (0 : Int32)), .val (.int (1 : Int32)), .val (.ref b255), .unset, .unset, .unset, .unset] [(.int (3 : Int32))])) (fun t k => ?_) ?_
      · show Steps p.tables e below (T255.setTop (mkF m 25 #[.val (.int p1), .val (.int p2), .val (.int p3), .val (.int p4), .val (.int p5), .val (.int p6), .val (.int (0 : Int32)), .val (.int (1 : Int32)), .unset, .unset, .unset, .unset, .unset] [(.ref b255)])) _
        refine XS.astore X255.here hx rfl (hb hby at_25) rfl rfl (l' := #[.val (.int p1), .val (.int p2), .val (.int p3), .val (.int p4), .val (.int p5), .val (.int p6), .val (.int (0 : Int32)), .val (.int (1 : Int32)), .val (.ref b255), .unset, .unset, .unset, .unset]) rfl ?_
        show Steps p.tables e below (T255.setTop (mkF m 27 #[.val (.int p1), .val (.int p2), .val (.int p3), .val (.int p4), .val (.int p5), .val (.int p6), .val (.int (0 : Int32)), .val (.int (1 : Int32)), .val (.ref b255), .unset, .unset, .unset, .unset] [])) _
        refine XS.iconst X255.here hx rfl (hb hby at_27) ?_
        exact k
      obtain ⟨T256, h256, k256, X256, e256, E256, A256, st256⟩ := newP X255 hx hZ (hw _ (List.mem_of_getElem? (i := 0) rfl)) e255 (g := (mkF m 28 #[.val (.int p1), .val (.int p2), .val (.int p3), .val (.int p4), .val (.int p5), .val (.int p6), .val (.int (0 : Int32)), .val (.int (1 : Int32)), .val (.ref b255), .unset, .unset, .unset, .unset] [(.int (3 : Int32))])) rfl (hb hby at_28) rfl (by decide) (cap := 3) (by decide) (by decide) (by decide) (by decide)
      obtain ⟨b256, g256⟩ : ∃ z, z = h255.size := ⟨_, rfl⟩
      rw [← g256] at A256 st256
      have ne256_b255 : b255 ≠ b256 := Nat.ne_of_lt (Nat.lt_of_lt_of_le V255.lt (Nat.le_of_eq g256.symm))
      have low256 : n0 ≤ b256 := Nat.le_trans Z255 (Nat.le_of_eq g256.symm)
      have sz256 : h0.size ≤ b256 := Nat.le_trans K255.1 (Nat.le_of_eq g256.symm)
      have Q257 : Arv Z h256 b255 k255 .int (3 : Int32) [(.int (0 : Int32)), (.int (0 : Int32)), (.int (0 : Int32))] (.int (0 : Int32)) := V255.ext E256
      have Z256 : n0 ≤ h256.size := Nat.le_trans Z255 E256.1
      have K256 := K255.ext E256
      have V256 : Arv Z h256 b256 k256 .int (3 : Int32) [(.int (0 : Int32)), (.int (0 : Int32)), (.int (0 : Int32))] (.int (0 : Int32)) := (Arv.new A256 (by decide)).pad (pad_rep [] (.int (0 : Int32)) 3)
      refine own_go st256 ?_
      refine own_go (A := T256.setTop (mkF m 30 #[.val (.int p1), .val (.int p2), .val (.int p3), .val (.int p4), .val (.int p5), .val (.int p6), .val (.int (0 : Int32)), .val (.int (1 : Int32)), .val (.ref b255), .unset, .unset, .unset, .unset] [(.ref b256)])) (B := T256.setTop (mkF m 32 #[.val (.int p1), .val (.int p2), .val (.int p3), .val (.int p4), .val (.int p5), .val (.int p6), .val (.int (0 : Int32)), .val (.int (1 : Int32)), .val (.ref b255), .val (.ref b256), .unset, .unset, .unset] [])) (fun t k => ?_) ?_
      · show Steps p.tables e below (T256.setTop (mkF m 30 #[.val (.int p1), .val (.int p2), .val (.int p3), .val (.int p4), .val (.int p5), .val (.int p6), .val (.int (0 : Int32)), .val (.int (1 : Int32)), .val (.ref b255), .unset, .unset, .unset, .unset] [(.ref b256)])) _
        refine XS.astore X256.here hx rfl (hb hby at_30) rfl rfl (l' := #[.val (.int p1), .val (.int p2), .val (.int p3), .val (.int p4), .val (.int p5), .val (.int p6), .val (.int (0 : Int32)), .val (.int (1 : Int32)), .val (.ref b255), .val (.ref b256), .unset, .unset, .unset]) rfl ?_
        exact k
      obtain ⟨T258, h258, X258, e258, E258, A258, D258, -, st258⟩ := newO X256 hx hZ hown (hw _ (List.mem_of_getElem? (i := 1) rfl)) (hw _ (List.mem_of_getElem? (i := 2) rfl)) (hw _ (List.mem_of_getElem? (i := 3) rfl)) e256 (g := (mkF m 32 #[.val (.int p1), .val (.int p2), .val (.int p3), .val (.int p4), .val (.int p5), .val (.int p6), .val (.int (0 : Int32)), .val (.int (1 : Int32)), .val (.ref b255), .val (.ref b256), .unset, .unset, .unset] [])) rfl (hb hby at_32) (by decide) (by decide)
      obtain ⟨b258, g258⟩ : ∃ z, z = h256.size := ⟨_, rfl⟩
      rw [← g258] at A258 D258 st258
      have ne258_b255 : b255 ≠ b258 := Nat.ne_of_lt (Nat.lt_of_lt_of_le Q257.lt (Nat.le_of_eq g258.symm))
      have ne258_b256 : b256 ≠ b258 := Nat.ne_of_lt (Nat.lt_of_lt_of_le V256.lt (Nat.le_of_eq g258.symm))
      have low258 : n0 ≤ b258 := Nat.le_trans Z256 (Nat.le_of_eq g258.symm)
      have sz258 : h0.size ≤ b258 := Nat.le_trans K256.1 (Nat.le_of_eq g258.symm)
      have Q259 : Arv Z h258 b255 k255 .int (3 : Int32) [(.int (0 : Int32)), (.int (0 : Int32)), (.int (0 : Int32))] (.int (0 : Int32)) := Q257.ext E258
      have Q260 : Arv Z h258 b256 k256 .int (3 : Int32) [(.int (0 : Int32)), (.int (0 : Int32)), (.int (0 : Int32))] (.int (0 : Int32)) := V256.ext E258
      have Z258 : n0 ≤ h258.size := Nat.le_trans Z256 E258.1
      have K258 := K256.ext E258
      have D258_from_Arcs : Fld Z h258 b258 "com/example/axiomwright/axiomwright/Arcs" "from" "[I" .null := D258 (Or.inl (hw _ (List.mem_of_getElem? (i := 11) rfl))) (ty := (.array .int)) (by decide)
      have D258_to_Arcs : Fld Z h258 b258 "com/example/axiomwright/axiomwright/Arcs" "to" "[I" .null := D258 (Or.inl (hw _ (List.mem_of_getElem? (i := 13) rfl))) (ty := (.array .int)) (by decide)
      have D258_size_Arcs : Fld Z h258 b258 "com/example/axiomwright/axiomwright/Arcs" "size" "I" (.int (0 : Int32)) := D258 (Or.inl (hw _ (List.mem_of_getElem? (i := 20) rfl))) (ty := .int) (by decide)
      refine own_go st258 ?_
      refine own_go (A := T258.setTop (mkF m 35 #[.val (.int p1), .val (.int p2), .val (.int p3), .val (.int p4), .val (.int p5), .val (.int p6), .val (.int (0 : Int32)), .val (.int (1 : Int32)), .val (.ref b255), .val (.ref b256), .unset, .unset, .unset] [(.ref b258)])) (B := T258.setTop (mkF m 36 #[.val (.int p1), .val (.int p2), .val (.int p3), .val (.int p4), .val (.int p5), .val (.int p6), .val (.int (0 : Int32)), .val (.int (1 : Int32)), .val (.ref b255), .val (.ref b256), .unset, .unset, .unset] [(.ref b258), (.ref b258)])) (fun t k => ?_) ?_
      · show Steps p.tables e below (T258.setTop (mkF m 35 #[.val (.int p1), .val (.int p2), .val (.int p3), .val (.int p4), .val (.int p5), .val (.int p6), .val (.int (0 : Int32)), .val (.int (1 : Int32)), .val (.ref b255), .val (.ref b256), .unset, .unset, .unset] [(.ref b258)])) _
        refine XS.dup X258.here hx rfl (hb hby at_35) rfl rfl ?_
        exact k
      obtain ⟨_, _, ⟨T261, L261, k261, n261⟩, -, X261, ⟨Lc261, hQ261, l261, y261, z261⟩, st261⟩ := X258.specialBack hx (y := (⟨"com/example/axiomwright/axiomwright/Arcs", "<init>", "()V"⟩ : MethodName)) rfl hown (mvT hZ (hw _ (List.mem_of_getElem? (i := 4) rfl))) (mvT hZ (hw _ (List.mem_of_getElem? (i := 5) rfl))) (mvT hZ (hw _ (List.mem_of_getElem? (i := 6) rfl))) (by decide) (backOf (W := 1) (rm1 l Z a0 hw [] b258 h258 n0 Z258 A258 D258_from_Arcs D258_to_Arcs D258_size_Arcs low258) hZ (hw _ (List.mem_of_getElem? (i := 6) rfl)) (hw _ (List.mem_of_getElem? (i := 3) rfl)) (by decide) (by decide)) (g := (mkF m 36 #[.val (.int p1), .val (.int p2), .val (.int p3), .val (.int p4), .val (.int p5), .val (.int p6), .val (.int (0 : Int32)), .val (.int (1 : Int32)), .val (.ref b255), .val (.ref b256), .unset, .unset, .unset] [(.ref b258), (.ref b258)])) rfl (by rw [hml]; rfl) (Steps.refl _) (a := b258) (argsL := []) (rest := [(.ref b258)]) (lenOf pd_2 rfl) rfl (by show 2 * 0 + _ ≤ _; exact Nat.le_of_eq rfl) (hb hby at_36) (fun _ _ => ⟨rfl, e258, (by decide : 3 + 2 ≤ _), (by decide : 9 + 32 ≤ _)⟩)
      dsimp only [Pt.U, Pt.locs, Pt.cells, Pt.slots] at X261 l261 y261 z261 st261 hQ261
      subst l261 y261 z261
      obtain ⟨b1_261, b2_261, k1_261, k2_261, rfl, Nq261, Kq261, sq_b1_261, sq_b2_261, pq261_0, U261_0, U261_1, U261_2, U261_3, U261_4⟩ := hQ261
      have ne_b255_b1_261 : b255 ≠ b1_261 := Nat.ne_of_lt (Nat.lt_of_lt_of_le Q259.lt sq_b1_261)
      have ne_b256_b1_261 : b256 ≠ b1_261 := Nat.ne_of_lt (Nat.lt_of_lt_of_le Q260.lt sq_b1_261)
      have ne_b258_b1_261 : b258 ≠ b1_261 := Nat.ne_of_lt (Nat.lt_of_lt_of_le A258.lt sq_b1_261)
      have low_b1_261 : n0 ≤ b1_261 := Nat.le_trans Z258 sq_b1_261
      have sz_b1_261 : h0.size ≤ b1_261 := Nat.le_trans K258.1 sq_b1_261
      have ne_b255_b2_261 : b255 ≠ b2_261 := Nat.ne_of_lt (Nat.lt_of_lt_of_le Q259.lt sq_b2_261)
      have ne_b256_b2_261 : b256 ≠ b2_261 := Nat.ne_of_lt (Nat.lt_of_lt_of_le Q260.lt sq_b2_261)
      have ne_b258_b2_261 : b258 ≠ b2_261 := Nat.ne_of_lt (Nat.lt_of_lt_of_le A258.lt sq_b2_261)
      have low_b2_261 : n0 ≤ b2_261 := Nat.le_trans Z258 sq_b2_261
      have sz_b2_261 : h0.size ≤ b2_261 := Nat.le_trans K258.1 sq_b2_261
      have Q262 : Arv Z T261.heap b255 k255 .int (3 : Int32) [(.int (0 : Int32)), (.int (0 : Int32)), (.int (0 : Int32))] (.int (0 : Int32)) := Q259.keep Kq261 (ninS ne258_b255 nin0)
      have Q263 : Arv Z T261.heap b256 k256 .int (3 : Int32) [(.int (0 : Int32)), (.int (0 : Int32)), (.int (0 : Int32))] (.int (0 : Int32)) := Q260.keep Kq261 (ninS ne258_b256 nin0)
      have Q264 : Exa Z T261.heap b258 "com/example/axiomwright/axiomwright/Arcs" := A258.keep Kq261
      have Z261 : n0 ≤ T261.heap.size := Nat.le_trans Z258 Kq261.1
      have K261 : Keep h0 T261.heap [] := K258.trans Kq261 (allS (Or.inr sz258) all0)
      have N261 := Fr.app N0 Nq261
      refine own_go (A := _) (B := T261.setTop (mkF m 39 #[.val (.int p1), .val (.int p2), .val (.int p3), .val (.int p4), .val (.int p5), .val (.int p6), .val (.int (0 : Int32)), .val (.int (1 : Int32)), .val (.ref b255), .val (.ref b256), .unset, .unset, .unset] [(.ref b258)])) (fun t k => st261.trans k) ?_
      refine own_go (A := T261.setTop (mkF m 39 #[.val (.int p1), .val (.int p2), .val (.int p3), .val (.int p4), .val (.int p5), .val (.int p6), .val (.int (0 : Int32)), .val (.int (1 : Int32)), .val (.ref b255), .val (.ref b256), .unset, .unset, .unset] [(.ref b258)])) (B := T261.setTop (mkF m 41 #[.val (.int p1), .val (.int p2), .val (.int p3), .val (.int p4), .val (.int p5), .val (.int p6), .val (.int (0 : Int32)), .val (.int (1 : Int32)), .val (.ref b255), .val (.ref b256), .val (.ref b258), .unset, .unset] [])) (fun t k => ?_) ?_
      · show Steps p.tables e below (T261.setTop (mkF m 39 #[.val (.int p1), .val (.int p2), .val (.int p3), .val (.int p4), .val (.int p5), .val (.int p6), .val (.int (0 : Int32)), .val (.int (1 : Int32)), .val (.ref b255), .val (.ref b256), .unset, .unset, .unset] [(.ref b258)])) _
        refine XS.astore X261.here hx rfl (hb hby at_39) rfl rfl (l' := #[.val (.int p1), .val (.int p2), .val (.int p3), .val (.int p4), .val (.int p5), .val (.int p6), .val (.int (0 : Int32)), .val (.int (1 : Int32)), .val (.ref b255), .val (.ref b256), .val (.ref b258), .unset, .unset]) rfl ?_
        exact k
      obtain ⟨T265, h265, X265, e265, E265, A265, D265, -, st265⟩ := newO X261 hx hZ hown (hw _ (List.mem_of_getElem? (i := 1) rfl)) (hw _ (List.mem_of_getElem? (i := 2) rfl)) (hw _ (List.mem_of_getElem? (i := 3) rfl)) rfl (g := (mkF m 41 #[.val (.int p1), .val (.int p2), .val (.int p3), .val (.int p4), .val (.int p5), .val (.int p6), .val (.int (0 : Int32)), .val (.int (1 : Int32)), .val (.ref b255), .val (.ref b256), .val (.ref b258), .unset, .unset] [])) rfl (hb hby at_41) (by decide) (by decide)
      obtain ⟨b265, g265⟩ : ∃ z, z = T261.heap.size := ⟨_, rfl⟩
      rw [← g265] at A265 D265 st265
      have ne265_b1_261 : b1_261 ≠ b265 := Nat.ne_of_lt (Nat.lt_of_lt_of_le U261_3.lt (Nat.le_of_eq g265.symm))
      have ne265_b255 : b255 ≠ b265 := Nat.ne_of_lt (Nat.lt_of_lt_of_le Q262.lt (Nat.le_of_eq g265.symm))
      have ne265_b256 : b256 ≠ b265 := Nat.ne_of_lt (Nat.lt_of_lt_of_le Q263.lt (Nat.le_of_eq g265.symm))
      have ne265_b258 : b258 ≠ b265 := Nat.ne_of_lt (Nat.lt_of_lt_of_le Q264.lt (Nat.le_of_eq g265.symm))
      have ne265_b2_261 : b2_261 ≠ b265 := Nat.ne_of_lt (Nat.lt_of_lt_of_le U261_4.lt (Nat.le_of_eq g265.symm))
      have low265 : n0 ≤ b265 := Nat.le_trans Z261 (Nat.le_of_eq g265.symm)
      have sz265 : h0.size ≤ b265 := Nat.le_trans K261.1 (Nat.le_of_eq g265.symm)
      have Q266 : Arv Z h265 b255 k255 .int (3 : Int32) [(.int (0 : Int32)), (.int (0 : Int32)), (.int (0 : Int32))] (.int (0 : Int32)) := Q262.ext E265
      have Q267 : Arv Z h265 b256 k256 .int (3 : Int32) [(.int (0 : Int32)), (.int (0 : Int32)), (.int (0 : Int32))] (.int (0 : Int32)) := Q263.ext E265
      have Q268 : Exa Z h265 b258 "com/example/axiomwright/axiomwright/Arcs" := Q264.ext E265
      have Q269 : Fld Z h265 b258 "com/example/axiomwright/axiomwright/Arcs" "from" "[I" (.ref b1_261) := U261_0.ext E265
      have Q270 : Fld Z h265 b258 "com/example/axiomwright/axiomwright/Arcs" "to" "[I" (.ref b2_261) := U261_1.ext E265
      have Q271 : Fld Z h265 b258 "com/example/axiomwright/axiomwright/Arcs" "size" "I" (.int (0 : Int32)) := U261_2.ext E265
      have Q272 : Arv Z h265 b1_261 k1_261 .int (16 : Int32) [(.int (0 : Int32)), (.int (0 : Int32)), (.int (0 : Int32)), (.int (0 : Int32)), (.int (0 : Int32)), (.int (0 : Int32)), (.int (0 : Int32)), (.int (0 : Int32)), (.int (0 : Int32)), (.int (0 : Int32)), (.int (0 : Int32)), (.int (0 : Int32)), (.int (0 : Int32)), (.int (0 : Int32)), (.int (0 : Int32)), (.int (0 : Int32))] (.int (0 : Int32)) := U261_3.ext E265
      have Q273 : Arv Z h265 b2_261 k2_261 .int (16 : Int32) [(.int (0 : Int32)), (.int (0 : Int32)), (.int (0 : Int32)), (.int (0 : Int32)), (.int (0 : Int32)), (.int (0 : Int32)), (.int (0 : Int32)), (.int (0 : Int32)), (.int (0 : Int32)), (.int (0 : Int32)), (.int (0 : Int32)), (.int (0 : Int32)), (.int (0 : Int32)), (.int (0 : Int32)), (.int (0 : Int32)), (.int (0 : Int32))] (.int (0 : Int32)) := U261_4.ext E265
      have Z265 : n0 ≤ h265.size := Nat.le_trans Z261 E265.1
      have K265 := K261.ext E265
      have D265_from_Arcs : Fld Z h265 b265 "com/example/axiomwright/axiomwright/Arcs" "from" "[I" .null := D265 (Or.inl (hw _ (List.mem_of_getElem? (i := 11) rfl))) (ty := (.array .int)) (by decide)
      have D265_to_Arcs : Fld Z h265 b265 "com/example/axiomwright/axiomwright/Arcs" "to" "[I" .null := D265 (Or.inl (hw _ (List.mem_of_getElem? (i := 13) rfl))) (ty := (.array .int)) (by decide)
      have D265_size_Arcs : Fld Z h265 b265 "com/example/axiomwright/axiomwright/Arcs" "size" "I" (.int (0 : Int32)) := D265 (Or.inl (hw _ (List.mem_of_getElem? (i := 20) rfl))) (ty := .int) (by decide)
      refine own_go st265 ?_
      refine own_go (A := T265.setTop (mkF m 44 #[.val (.int p1), .val (.int p2), .val (.int p3), .val (.int p4), .val (.int p5), .val (.int p6), .val (.int (0 : Int32)), .val (.int (1 : Int32)), .val (.ref b255), .val (.ref b256), .val (.ref b258), .unset, .unset] [(.ref b265)])) (B := T265.setTop (mkF m 45 #[.val (.int p1), .val (.int p2), .val (.int p3), .val (.int p4), .val (.int p5), .val (.int p6), .val (.int (0 : Int32)), .val (.int (1 : Int32)), .val (.ref b255), .val (.ref b256), .val (.ref b258), .unset, .unset] [(.ref b265), (.ref b265)])) (fun t k => ?_) ?_
      · show Steps p.tables e below (T265.setTop (mkF m 44 #[.val (.int p1), .val (.int p2), .val (.int p3), .val (.int p4), .val (.int p5), .val (.int p6), .val (.int (0 : Int32)), .val (.int (1 : Int32)), .val (.ref b255), .val (.ref b256), .val (.ref b258), .unset, .unset] [(.ref b265)])) _
        refine XS.dup X265.here hx rfl (hb hby at_44) rfl rfl ?_
        exact k
      obtain ⟨_, _, ⟨T274, L274, k274, n274⟩, -, X274, ⟨Lc274, hQ274, l274, y274, z274⟩, st274⟩ := X265.specialBack hx (y := (⟨"com/example/axiomwright/axiomwright/Arcs", "<init>", "()V"⟩ : MethodName)) rfl hown (mvT hZ (hw _ (List.mem_of_getElem? (i := 4) rfl))) (mvT hZ (hw _ (List.mem_of_getElem? (i := 5) rfl))) (mvT hZ (hw _ (List.mem_of_getElem? (i := 6) rfl))) (by decide) (backOf (W := 1) (rm1 l Z a0 hw [] b265 h265 n0 Z265 A265 D265_from_Arcs D265_to_Arcs D265_size_Arcs low265) hZ (hw _ (List.mem_of_getElem? (i := 6) rfl)) (hw _ (List.mem_of_getElem? (i := 3) rfl)) (by decide) (by decide)) (g := (mkF m 45 #[.val (.int p1), .val (.int p2), .val (.int p3), .val (.int p4), .val (.int p5), .val (.int p6), .val (.int (0 : Int32)), .val (.int (1 : Int32)), .val (.ref b255), .val (.ref b256), .val (.ref b258), .unset, .unset] [(.ref b265), (.ref b265)])) rfl (by rw [hml]; rfl) (Steps.refl _) (a := b265) (argsL := []) (rest := [(.ref b265)]) (lenOf pd_2 rfl) rfl (by show 2 * 0 + _ ≤ _; exact Nat.le_of_eq rfl) (hb hby at_45) (fun _ _ => ⟨rfl, e265, (by decide : 6 + 2 ≤ _), (by decide : 44 + 32 ≤ _)⟩)
      dsimp only [Pt.U, Pt.locs, Pt.cells, Pt.slots] at X274 l274 y274 z274 st274 hQ274
      subst l274 y274 z274
      obtain ⟨b1_274, b2_274, k1_274, k2_274, rfl, Nq274, Kq274, sq_b1_274, sq_b2_274, pq274_0, U274_0, U274_1, U274_2, U274_3, U274_4⟩ := hQ274
      have ne_b1_261_b1_274 : b1_261 ≠ b1_274 := Nat.ne_of_lt (Nat.lt_of_lt_of_le Q272.lt sq_b1_274)
      have ne_b255_b1_274 : b255 ≠ b1_274 := Nat.ne_of_lt (Nat.lt_of_lt_of_le Q266.lt sq_b1_274)
      have ne_b256_b1_274 : b256 ≠ b1_274 := Nat.ne_of_lt (Nat.lt_of_lt_of_le Q267.lt sq_b1_274)
      have ne_b258_b1_274 : b258 ≠ b1_274 := Nat.ne_of_lt (Nat.lt_of_lt_of_le Q268.lt sq_b1_274)
      have ne_b265_b1_274 : b265 ≠ b1_274 := Nat.ne_of_lt (Nat.lt_of_lt_of_le A265.lt sq_b1_274)
      have ne_b2_261_b1_274 : b2_261 ≠ b1_274 := Nat.ne_of_lt (Nat.lt_of_lt_of_le Q273.lt sq_b1_274)
      have low_b1_274 : n0 ≤ b1_274 := Nat.le_trans Z265 sq_b1_274
      have sz_b1_274 : h0.size ≤ b1_274 := Nat.le_trans K265.1 sq_b1_274
      have ne_b1_261_b2_274 : b1_261 ≠ b2_274 := Nat.ne_of_lt (Nat.lt_of_lt_of_le Q272.lt sq_b2_274)
      have ne_b255_b2_274 : b255 ≠ b2_274 := Nat.ne_of_lt (Nat.lt_of_lt_of_le Q266.lt sq_b2_274)
      have ne_b256_b2_274 : b256 ≠ b2_274 := Nat.ne_of_lt (Nat.lt_of_lt_of_le Q267.lt sq_b2_274)
      have ne_b258_b2_274 : b258 ≠ b2_274 := Nat.ne_of_lt (Nat.lt_of_lt_of_le Q268.lt sq_b2_274)
      have ne_b265_b2_274 : b265 ≠ b2_274 := Nat.ne_of_lt (Nat.lt_of_lt_of_le A265.lt sq_b2_274)
      have ne_b2_261_b2_274 : b2_261 ≠ b2_274 := Nat.ne_of_lt (Nat.lt_of_lt_of_le Q273.lt sq_b2_274)
      have low_b2_274 : n0 ≤ b2_274 := Nat.le_trans Z265 sq_b2_274
      have sz_b2_274 : h0.size ≤ b2_274 := Nat.le_trans K265.1 sq_b2_274
      have Q275 : Arv Z T274.heap b255 k255 .int (3 : Int32) [(.int (0 : Int32)), (.int (0 : Int32)), (.int (0 : Int32))] (.int (0 : Int32)) := Q266.keep Kq274 (ninS ne265_b255 nin0)
      have Q276 : Arv Z T274.heap b256 k256 .int (3 : Int32) [(.int (0 : Int32)), (.int (0 : Int32)), (.int (0 : Int32))] (.int (0 : Int32)) := Q267.keep Kq274 (ninS ne265_b256 nin0)
      have Q277 : Exa Z T274.heap b258 "com/example/axiomwright/axiomwright/Arcs" := Q268.keep Kq274
      have Q278 : Fld Z T274.heap b258 "com/example/axiomwright/axiomwright/Arcs" "from" "[I" (.ref b1_261) := Q269.keep Kq274 (ninS ne265_b258 nin0)
      have Q279 : Fld Z T274.heap b258 "com/example/axiomwright/axiomwright/Arcs" "to" "[I" (.ref b2_261) := Q270.keep Kq274 (ninS ne265_b258 nin0)
      have Q280 : Fld Z T274.heap b258 "com/example/axiomwright/axiomwright/Arcs" "size" "I" (.int (0 : Int32)) := Q271.keep Kq274 (ninS ne265_b258 nin0)
      have Q281 : Arv Z T274.heap b1_261 k1_261 .int (16 : Int32) [(.int (0 : Int32)), (.int (0 : Int32)), (.int (0 : Int32)), (.int (0 : Int32)), (.int (0 : Int32)), (.int (0 : Int32)), (.int (0 : Int32)), (.int (0 : Int32)), (.int (0 : Int32)), (.int (0 : Int32)), (.int (0 : Int32)), (.int (0 : Int32)), (.int (0 : Int32)), (.int (0 : Int32)), (.int (0 : Int32)), (.int (0 : Int32))] (.int (0 : Int32)) := Q272.keep Kq274 (ninS ne265_b1_261 nin0)
      have Q282 : Arv Z T274.heap b2_261 k2_261 .int (16 : Int32) [(.int (0 : Int32)), (.int (0 : Int32)), (.int (0 : Int32)), (.int (0 : Int32)), (.int (0 : Int32)), (.int (0 : Int32)), (.int (0 : Int32)), (.int (0 : Int32)), (.int (0 : Int32)), (.int (0 : Int32)), (.int (0 : Int32)), (.int (0 : Int32)), (.int (0 : Int32)), (.int (0 : Int32)), (.int (0 : Int32)), (.int (0 : Int32))] (.int (0 : Int32)) := Q273.keep Kq274 (ninS ne265_b2_261 nin0)
      have Q283 : Exa Z T274.heap b265 "com/example/axiomwright/axiomwright/Arcs" := A265.keep Kq274
      have Z274 : n0 ≤ T274.heap.size := Nat.le_trans Z265 Kq274.1
      have K274 : Keep h0 T274.heap [] := K265.trans Kq274 (allS (Or.inr sz265) all0)
      have N274 := Fr.app N261 Nq274
      refine own_go (A := _) (B := T274.setTop (mkF m 48 #[.val (.int p1), .val (.int p2), .val (.int p3), .val (.int p4), .val (.int p5), .val (.int p6), .val (.int (0 : Int32)), .val (.int (1 : Int32)), .val (.ref b255), .val (.ref b256), .val (.ref b258), .unset, .unset] [(.ref b265)])) (fun t k => st274.trans k) ?_
      refine own_go (A := T274.setTop (mkF m 48 #[.val (.int p1), .val (.int p2), .val (.int p3), .val (.int p4), .val (.int p5), .val (.int p6), .val (.int (0 : Int32)), .val (.int (1 : Int32)), .val (.ref b255), .val (.ref b256), .val (.ref b258), .unset, .unset] [(.ref b265)])) (B := T274.setTop (mkF m 91 #[.val (.int p1), .val (.int p2), .val (.int p3), .val (.int p4), .val (.int p5), .val (.int p6), .val (.int (0 : Int32)), .val (.int (1 : Int32)), .val (.ref b255), .val (.ref b256), .val (.ref b258), .val (.ref b265), .val (.int (0 : Int32))] [(.int p5), (.int p4), (.ref b265)])) (fun t k => ?_) ?_
      · show Steps p.tables e below (T274.setTop (mkF m 48 #[.val (.int p1), .val (.int p2), .val (.int p3), .val (.int p4), .val (.int p5), .val (.int p6), .val (.int (0 : Int32)), .val (.int (1 : Int32)), .val (.ref b255), .val (.ref b256), .val (.ref b258), .unset, .unset] [(.ref b265)])) _
        refine XS.astore X274.here hx rfl (hb hby at_48) rfl rfl (l' := #[.val (.int p1), .val (.int p2), .val (.int p3), .val (.int p4), .val (.int p5), .val (.int p6), .val (.int (0 : Int32)), .val (.int (1 : Int32)), .val (.ref b255), .val (.ref b256), .val (.ref b258), .val (.ref b265), .unset]) rfl ?_
        show Steps p.tables e below (T274.setTop (mkF m 50 #[.val (.int p1), .val (.int p2), .val (.int p3), .val (.int p4), .val (.int p5), .val (.int p6), .val (.int (0 : Int32)), .val (.int (1 : Int32)), .val (.ref b255), .val (.ref b256), .val (.ref b258), .val (.ref b265), .unset] [])) _
        refine XS.iconst X274.here hx rfl (hb hby at_50) ?_
        show Steps p.tables e below (T274.setTop (mkF m 51 #[.val (.int p1), .val (.int p2), .val (.int p3), .val (.int p4), .val (.int p5), .val (.int p6), .val (.int (0 : Int32)), .val (.int (1 : Int32)), .val (.ref b255), .val (.ref b256), .val (.ref b258), .val (.ref b265), .unset] [(.int (0 : Int32))])) _
        refine XS.istore X274.here hx rfl (hb hby at_51) rfl (l' := #[.val (.int p1), .val (.int p2), .val (.int p3), .val (.int p4), .val (.int p5), .val (.int p6), .val (.int (0 : Int32)), .val (.int (1 : Int32)), .val (.ref b255), .val (.ref b256), .val (.ref b258), .val (.ref b265), .val (.int (0 : Int32))]) rfl ?_
        show Steps p.tables e below (T274.setTop (mkF m 53 #[.val (.int p1), .val (.int p2), .val (.int p3), .val (.int p4), .val (.int p5), .val (.int p6), .val (.int (0 : Int32)), .val (.int (1 : Int32)), .val (.ref b255), .val (.ref b256), .val (.ref b258), .val (.ref b265), .val (.int (0 : Int32))] [])) _
        refine XS.iload X274.here hx rfl (hb hby at_53) rfl ?_
        show Steps p.tables e below (T274.setTop (mkF m 55 #[.val (.int p1), .val (.int p2), .val (.int p3), .val (.int p4), .val (.int p5), .val (.int p6), .val (.int (0 : Int32)), .val (.int (1 : Int32)), .val (.ref b255), .val (.ref b256), .val (.ref b258), .val (.ref b265), .val (.int (0 : Int32))] [(.int (0 : Int32))])) _
        refine XS.ifYes X274.here hx rfl (pc0 := 55) (pc' := 80) rfl (hb hby at_55) rfl ((if0 _ _).trans (teq (rfl : (0 : Int32) = (0 : Int32))).1) (by decide) (by decide) ?_
        show Steps p.tables e below (T274.setTop (mkF m 80 #[.val (.int p1), .val (.int p2), .val (.int p3), .val (.int p4), .val (.int p5), .val (.int p6), .val (.int (0 : Int32)), .val (.int (1 : Int32)), .val (.ref b255), .val (.ref b256), .val (.ref b258), .val (.ref b265), .val (.int (0 : Int32))] [])) _
        refine XS.iload X274.here hx rfl (hb hby at_80) rfl ?_
        show Steps p.tables e below (T274.setTop (mkF m 82 #[.val (.int p1), .val (.int p2), .val (.int p3), .val (.int p4), .val (.int p5), .val (.int p6), .val (.int (0 : Int32)), .val (.int (1 : Int32)), .val (.ref b255), .val (.ref b256), .val (.ref b258), .val (.ref b265), .val (.int (0 : Int32))] [(.int (1 : Int32))])) _
        refine XS.iconst X274.here hx rfl (hb hby at_82) ?_
        show Steps p.tables e below (T274.setTop (mkF m 83 #[.val (.int p1), .val (.int p2), .val (.int p3), .val (.int p4), .val (.int p5), .val (.int p6), .val (.int (0 : Int32)), .val (.int (1 : Int32)), .val (.ref b255), .val (.ref b256), .val (.ref b258), .val (.ref b265), .val (.int (0 : Int32))] [(.int (1 : Int32)), (.int (1 : Int32))])) _
        refine XS.icmpNo X274.here hx rfl (hb hby at_83) rfl (flt Int32.lt_irrefl).1 ?_
        show Steps p.tables e below (T274.setTop (mkF m 86 #[.val (.int p1), .val (.int p2), .val (.int p3), .val (.int p4), .val (.int p5), .val (.int p6), .val (.int (0 : Int32)), .val (.int (1 : Int32)), .val (.ref b255), .val (.ref b256), .val (.ref b258), .val (.ref b265), .val (.int (0 : Int32))] [])) _
        refine XS.aload X274.here hx rfl (hb hby at_86) rfl rfl ?_
        show Steps p.tables e below (T274.setTop (mkF m 88 #[.val (.int p1), .val (.int p2), .val (.int p3), .val (.int p4), .val (.int p5), .val (.int p6), .val (.int (0 : Int32)), .val (.int (1 : Int32)), .val (.ref b255), .val (.ref b256), .val (.ref b258), .val (.ref b265), .val (.int (0 : Int32))] [(.ref b265)])) _
        refine XS.iloadN X274.here hx rfl (hb hby at_88) rfl ?_
        show Steps p.tables e below (T274.setTop (mkF m 89 #[.val (.int p1), .val (.int p2), .val (.int p3), .val (.int p4), .val (.int p5), .val (.int p6), .val (.int (0 : Int32)), .val (.int (1 : Int32)), .val (.ref b255), .val (.ref b256), .val (.ref b258), .val (.ref b265), .val (.int (0 : Int32))] [(.int p4), (.ref b265)])) _
        refine XS.iload X274.here hx rfl (hb hby at_89) rfl ?_
        exact k
      obtain ⟨cq286, kq286, q286a, q286b, q286c⟩ := isOf hZ rfl Q283
      obtain ⟨_, _, ⟨T286, L286, k286, n286⟩, -, X286, ⟨Lc286, hQ286, l286, y286, z286⟩, st286⟩ := X274.virtualBack hx (y := (⟨"com/example/axiomwright/axiomwright/Arcs", "add", "(II)V"⟩ : MethodName)) (z := (⟨"com/example/axiomwright/axiomwright/Arcs", "add", "(II)V"⟩ : MethodName)) hown (mvT hZ (hw _ (List.mem_of_getElem? (i := 30) rfl))) (mvT hZ (hw _ (List.mem_of_getElem? (i := 31) rfl))) (notFace_of_selects (args := #[]) (mvT hZ (hw _ (List.mem_of_getElem? (i := 33) rfl)))) (mvT hZ (hw _ (List.mem_of_getElem? (i := 33) rfl))) (mvT hZ (hw _ (List.mem_of_getElem? (i := 32) rfl))) (by decide) (backOf (W := 0) (rm6 l Z a0 hw [] b265 p4 p5 (0 : Int32) b1_274 b2_274 k1_274 k2_274 [(.int (0 : Int32)), (.int (0 : Int32)), (.int (0 : Int32)), (.int (0 : Int32)), (.int (0 : Int32)), (.int (0 : Int32)), (.int (0 : Int32)), (.int (0 : Int32)), (.int (0 : Int32)), (.int (0 : Int32)), (.int (0 : Int32)), (.int (0 : Int32)), (.int (0 : Int32)), (.int (0 : Int32)), (.int (0 : Int32)), (.int (0 : Int32))] [(.int (0 : Int32)), (.int (0 : Int32)), (.int (0 : Int32)), (.int (0 : Int32)), (.int (0 : Int32)), (.int (0 : Int32)), (.int (0 : Int32)), (.int (0 : Int32)), (.int (0 : Int32)), (.int (0 : Int32)), (.int (0 : Int32)), (.int (0 : Int32)), (.int (0 : Int32)), (.int (0 : Int32)), (.int (0 : Int32)), (.int (0 : Int32))] T274.heap n0 Z274 Q283 U274_2 U274_0 U274_1 U274_3 U274_4 low265 low_b1_274 low_b2_274 ne_b265_b1_274 ne_b265_b2_274 pq274_0 (by decide) (by decide) (by decide) (Nat.le_of_ble_eq_true rfl) (Nat.le_of_ble_eq_true rfl)) hZ (hw _ (List.mem_of_getElem? (i := 34) rfl)) (hw _ (List.mem_of_getElem? (i := 3) rfl)) (by decide) (by decide)) q286a q286c (g := (mkF m 91 #[.val (.int p1), .val (.int p2), .val (.int p3), .val (.int p4), .val (.int p5), .val (.int p6), .val (.int (0 : Int32)), .val (.int (1 : Int32)), .val (.ref b255), .val (.ref b256), .val (.ref b258), .val (.ref b265), .val (.int (0 : Int32))] [(.int p5), (.int p4), (.ref b265)])) rfl (by rw [hml]; rfl) (Steps.refl _) (argsL := [(.int p4), (.int p5)]) (rest := []) (lenOf pd_0 rfl) rfl (by show 2 * 0 + _ ≤ _; exact Nat.le_of_eq rfl) (hb hby at_91) (fun _ _ => ⟨rfl, rfl, (by decide : 8 + 0 ≤ _), (by decide : 76 + 0 ≤ _)⟩)
      dsimp only [Pt.U, Pt.locs, Pt.cells, Pt.slots] at X286 l286 y286 z286 st286 hQ286
      subst l286 y286 z286
      obtain ⟨rfl, Nq286, Kq286, U286_0, U286_1, U286_2, U286_3, U286_4⟩ := hQ286
      have Q287 : Arv Z T286.heap b255 k255 .int (3 : Int32) [(.int (0 : Int32)), (.int (0 : Int32)), (.int (0 : Int32))] (.int (0 : Int32)) := Q275.keep Kq286 (ninS ne265_b255 (ninS ne_b255_b1_274 (ninS ne_b255_b2_274 nin0)))
      have Q288 : Arv Z T286.heap b256 k256 .int (3 : Int32) [(.int (0 : Int32)), (.int (0 : Int32)), (.int (0 : Int32))] (.int (0 : Int32)) := Q276.keep Kq286 (ninS ne265_b256 (ninS ne_b256_b1_274 (ninS ne_b256_b2_274 nin0)))
      have Q289 : Exa Z T286.heap b258 "com/example/axiomwright/axiomwright/Arcs" := Q277.keep Kq286
      have Q290 : Fld Z T286.heap b258 "com/example/axiomwright/axiomwright/Arcs" "from" "[I" (.ref b1_261) := Q278.keep Kq286 (ninS ne265_b258 (ninS ne_b258_b1_274 (ninS ne_b258_b2_274 nin0)))
      have Q291 : Fld Z T286.heap b258 "com/example/axiomwright/axiomwright/Arcs" "to" "[I" (.ref b2_261) := Q279.keep Kq286 (ninS ne265_b258 (ninS ne_b258_b1_274 (ninS ne_b258_b2_274 nin0)))
      have Q292 : Fld Z T286.heap b258 "com/example/axiomwright/axiomwright/Arcs" "size" "I" (.int (0 : Int32)) := Q280.keep Kq286 (ninS ne265_b258 (ninS ne_b258_b1_274 (ninS ne_b258_b2_274 nin0)))
      have Q293 : Arv Z T286.heap b1_261 k1_261 .int (16 : Int32) [(.int (0 : Int32)), (.int (0 : Int32)), (.int (0 : Int32)), (.int (0 : Int32)), (.int (0 : Int32)), (.int (0 : Int32)), (.int (0 : Int32)), (.int (0 : Int32)), (.int (0 : Int32)), (.int (0 : Int32)), (.int (0 : Int32)), (.int (0 : Int32)), (.int (0 : Int32)), (.int (0 : Int32)), (.int (0 : Int32)), (.int (0 : Int32))] (.int (0 : Int32)) := Q281.keep Kq286 (ninS ne265_b1_261 (ninS ne_b1_261_b1_274 (ninS ne_b1_261_b2_274 nin0)))
      have Q294 : Arv Z T286.heap b2_261 k2_261 .int (16 : Int32) [(.int (0 : Int32)), (.int (0 : Int32)), (.int (0 : Int32)), (.int (0 : Int32)), (.int (0 : Int32)), (.int (0 : Int32)), (.int (0 : Int32)), (.int (0 : Int32)), (.int (0 : Int32)), (.int (0 : Int32)), (.int (0 : Int32)), (.int (0 : Int32)), (.int (0 : Int32)), (.int (0 : Int32)), (.int (0 : Int32)), (.int (0 : Int32))] (.int (0 : Int32)) := Q282.keep Kq286 (ninS ne265_b2_261 (ninS ne_b2_261_b1_274 (ninS ne_b2_261_b2_274 nin0)))
      have Q295 : Exa Z T286.heap b265 "com/example/axiomwright/axiomwright/Arcs" := Q283.keep Kq286
      have U286_0n : Fld Z T286.heap b265 "com/example/axiomwright/axiomwright/Arcs" "size" "I" (.int (1 : Int32)) := U286_0
      have U286_3n : Arv Z T286.heap b1_274 k1_274 .int (16 : Int32) [(.int p4), (.int (0 : Int32)), (.int (0 : Int32)), (.int (0 : Int32)), (.int (0 : Int32)), (.int (0 : Int32)), (.int (0 : Int32)), (.int (0 : Int32)), (.int (0 : Int32)), (.int (0 : Int32)), (.int (0 : Int32)), (.int (0 : Int32)), (.int (0 : Int32)), (.int (0 : Int32)), (.int (0 : Int32)), (.int (0 : Int32))] (.int (0 : Int32)) := U286_3
      have U286_4n : Arv Z T286.heap b2_274 k2_274 .int (16 : Int32) [(.int p5), (.int (0 : Int32)), (.int (0 : Int32)), (.int (0 : Int32)), (.int (0 : Int32)), (.int (0 : Int32)), (.int (0 : Int32)), (.int (0 : Int32)), (.int (0 : Int32)), (.int (0 : Int32)), (.int (0 : Int32)), (.int (0 : Int32)), (.int (0 : Int32)), (.int (0 : Int32)), (.int (0 : Int32)), (.int (0 : Int32))] (.int (0 : Int32)) := U286_4
      have Z286 : n0 ≤ T286.heap.size := Nat.le_trans Z274 Kq286.1
      have K286 : Keep h0 T286.heap [] := K274.trans Kq286 (allS (Or.inr sz265) (allS (Or.inr sz_b1_274) (allS (Or.inr sz_b2_274) all0)))
      have N286 := Fr.app N274 Nq286
      refine own_go (A := _) (B := T286.setTop (mkF m 94 #[.val (.int p1), .val (.int p2), .val (.int p3), .val (.int p4), .val (.int p5), .val (.int p6), .val (.int (0 : Int32)), .val (.int (1 : Int32)), .val (.ref b255), .val (.ref b256), .val (.ref b258), .val (.ref b265), .val (.int (0 : Int32))] [])) (fun t k => st286.trans k) ?_
      refine own_go (A := T286.setTop (mkF m 94 #[.val (.int p1), .val (.int p2), .val (.int p3), .val (.int p4), .val (.int p5), .val (.int p6), .val (.int (0 : Int32)), .val (.int (1 : Int32)), .val (.ref b255), .val (.ref b256), .val (.ref b258), .val (.ref b265), .val (.int (0 : Int32))] [])) (B := T286.setTop (mkF m 99 #[.val (.int p1), .val (.int p2), .val (.int p3), .val (.int p4), .val (.int p5), .val (.int p6), .val (.int (0 : Int32)), .val (.int (1 : Int32)), .val (.ref b255), .val (.ref b256), .val (.ref b258), .val (.ref b265), .val (.int (0 : Int32))] [(.int p4), (.int (0 : Int32)), (.ref b255)])) (fun t k => ?_) ?_
      · show Steps p.tables e below (T286.setTop (mkF m 94 #[.val (.int p1), .val (.int p2), .val (.int p3), .val (.int p4), .val (.int p5), .val (.int p6), .val (.int (0 : Int32)), .val (.int (1 : Int32)), .val (.ref b255), .val (.ref b256), .val (.ref b258), .val (.ref b265), .val (.int (0 : Int32))] [])) _
        refine XS.aload X286.here hx rfl (hb hby at_94) rfl rfl ?_
        show Steps p.tables e below (T286.setTop (mkF m 96 #[.val (.int p1), .val (.int p2), .val (.int p3), .val (.int p4), .val (.int p5), .val (.int p6), .val (.int (0 : Int32)), .val (.int (1 : Int32)), .val (.ref b255), .val (.ref b256), .val (.ref b258), .val (.ref b265), .val (.int (0 : Int32))] [(.ref b255)])) _
        refine XS.iload X286.here hx rfl (hb hby at_96) rfl ?_
        show Steps p.tables e below (T286.setTop (mkF m 98 #[.val (.int p1), .val (.int p2), .val (.int p3), .val (.int p4), .val (.int p5), .val (.int p6), .val (.int (0 : Int32)), .val (.int (1 : Int32)), .val (.ref b255), .val (.ref b256), .val (.ref b258), .val (.ref b265), .val (.int (0 : Int32))] [(.int (0 : Int32)), (.ref b255)])) _
        refine XS.iloadN X286.here hx rfl (hb hby at_98) rfl ?_
        exact k
      obtain ⟨cl296, Ar296, q296, S296, M296, Ha296, G296⟩ := Q287
      have hin296 : ¬ ((0 : Int32) < 0 ∨ cl296.slots.size ≤ ((0 : Int32)).toNatClampNeg) := inb_of S296 ⟨by decide, by decide⟩
      obtain ⟨T296, h296, X296, e296, W296, st296⟩ := stI X286 hx hZ rfl Ar296 (j := (0 : Int32)) hin296 (g := (mkF m 99 #[.val (.int p1), .val (.int p2), .val (.int p3), .val (.int p4), .val (.int p5), .val (.int p6), .val (.int (0 : Int32)), .val (.int (1 : Int32)), .val (.ref b255), .val (.ref b256), .val (.ref b258), .val (.ref b265), .val (.int (0 : Int32))] [(.int p4), (.int (0 : Int32)), (.ref b255)])) rfl rfl (hb hby at_99)
      have Q297 : Arv Z h296 b256 k256 .int (3 : Int32) [(.int (0 : Int32)), (.int (0 : Int32)), (.int (0 : Int32))] (.int (0 : Int32)) := Q288.other W296 (Ne.symm ne256_b255)
      have Q298 : Exa Z h296 b258 "com/example/axiomwright/axiomwright/Arcs" := Q289.wr W296
      have Q299 : Fld Z h296 b258 "com/example/axiomwright/axiomwright/Arcs" "from" "[I" (.ref b1_261) := Q290.other W296 (Or.inl (Ne.symm ne258_b255))
      have Q300 : Fld Z h296 b258 "com/example/axiomwright/axiomwright/Arcs" "to" "[I" (.ref b2_261) := Q291.other W296 (Or.inl (Ne.symm ne258_b255))
      have Q301 : Fld Z h296 b258 "com/example/axiomwright/axiomwright/Arcs" "size" "I" (.int (0 : Int32)) := Q292.other W296 (Or.inl (Ne.symm ne258_b255))
      have Q302 : Arv Z h296 b1_261 k1_261 .int (16 : Int32) [(.int (0 : Int32)), (.int (0 : Int32)), (.int (0 : Int32)), (.int (0 : Int32)), (.int (0 : Int32)), (.int (0 : Int32)), (.int (0 : Int32)), (.int (0 : Int32)), (.int (0 : Int32)), (.int (0 : Int32)), (.int (0 : Int32)), (.int (0 : Int32)), (.int (0 : Int32)), (.int (0 : Int32)), (.int (0 : Int32)), (.int (0 : Int32))] (.int (0 : Int32)) := Q293.other W296 (Ne.symm ne_b255_b1_261)
      have Q303 : Arv Z h296 b2_261 k2_261 .int (16 : Int32) [(.int (0 : Int32)), (.int (0 : Int32)), (.int (0 : Int32)), (.int (0 : Int32)), (.int (0 : Int32)), (.int (0 : Int32)), (.int (0 : Int32)), (.int (0 : Int32)), (.int (0 : Int32)), (.int (0 : Int32)), (.int (0 : Int32)), (.int (0 : Int32)), (.int (0 : Int32)), (.int (0 : Int32)), (.int (0 : Int32)), (.int (0 : Int32))] (.int (0 : Int32)) := Q294.other W296 (Ne.symm ne_b255_b2_261)
      have Q304 : Exa Z h296 b265 "com/example/axiomwright/axiomwright/Arcs" := Q295.wr W296
      have Q305 : Fld Z h296 b265 "com/example/axiomwright/axiomwright/Arcs" "size" "I" (.int (1 : Int32)) := U286_0n.other W296 (Or.inl (Ne.symm ne265_b255))
      have Q306 : Fld Z h296 b265 "com/example/axiomwright/axiomwright/Arcs" "from" "[I" (.ref b1_274) := U286_1.other W296 (Or.inl (Ne.symm ne265_b255))
      have Q307 : Fld Z h296 b265 "com/example/axiomwright/axiomwright/Arcs" "to" "[I" (.ref b2_274) := U286_2.other W296 (Or.inl (Ne.symm ne265_b255))
      have Q308 : Arv Z h296 b1_274 k1_274 .int (16 : Int32) [(.int p4), (.int (0 : Int32)), (.int (0 : Int32)), (.int (0 : Int32)), (.int (0 : Int32)), (.int (0 : Int32)), (.int (0 : Int32)), (.int (0 : Int32)), (.int (0 : Int32)), (.int (0 : Int32)), (.int (0 : Int32)), (.int (0 : Int32)), (.int (0 : Int32)), (.int (0 : Int32)), (.int (0 : Int32)), (.int (0 : Int32))] (.int (0 : Int32)) := U286_3n.other W296 (Ne.symm ne_b255_b1_274)
      have Q309 : Arv Z h296 b2_274 k2_274 .int (16 : Int32) [(.int p5), (.int (0 : Int32)), (.int (0 : Int32)), (.int (0 : Int32)), (.int (0 : Int32)), (.int (0 : Int32)), (.int (0 : Int32)), (.int (0 : Int32)), (.int (0 : Int32)), (.int (0 : Int32)), (.int (0 : Int32)), (.int (0 : Int32)), (.int (0 : Int32)), (.int (0 : Int32)), (.int (0 : Int32)), (.int (0 : Int32))] (.int (0 : Int32)) := U286_4n.other W296 (Ne.symm ne_b255_b2_274)
      have U296 : Arv Z h296 b255 k255 .int (3 : Int32) [(.int p4), (.int (0 : Int32)), (.int (0 : Int32))] (.int (0 : Int32)) := Arv.set Ar296 q296 S296 M296 Ha296 G296 rfl W296 0 rfl (Nat.le_of_ble_eq_true rfl)
      have Z296 : n0 ≤ h296.size := Nat.le_trans Z286 (Keep.of_wr W296).1
      have N296 := Fr.snoc X296 N286 low255
      have K296 := K286.wr W296 (Or.inr sz255)
      refine own_go st296 ?_
      refine own_go (A := T296.setTop (mkF m 100 #[.val (.int p1), .val (.int p2), .val (.int p3), .val (.int p4), .val (.int p5), .val (.int p6), .val (.int (0 : Int32)), .val (.int (1 : Int32)), .val (.ref b255), .val (.ref b256), .val (.ref b258), .val (.ref b265), .val (.int (0 : Int32))] [])) (B := T296.setTop (mkF m 106 #[.val (.int p1), .val (.int p2), .val (.int p3), .val (.int p4), .val (.int p5), .val (.int p6), .val (.int (0 : Int32)), .val (.int (1 : Int32)), .val (.ref b255), .val (.ref b256), .val (.ref b258), .val (.ref b265), .val (.int (0 : Int32))] [(.int p5), (.int (0 : Int32)), (.ref b256)])) (fun t k => ?_) ?_
      · show Steps p.tables e below (T296.setTop (mkF m 100 #[.val (.int p1), .val (.int p2), .val (.int p3), .val (.int p4), .val (.int p5), .val (.int p6), .val (.int (0 : Int32)), .val (.int (1 : Int32)), .val (.ref b255), .val (.ref b256), .val (.ref b258), .val (.ref b265), .val (.int (0 : Int32))] [])) _
        refine XS.aload X296.here hx rfl (hb hby at_100) rfl rfl ?_
        show Steps p.tables e below (T296.setTop (mkF m 102 #[.val (.int p1), .val (.int p2), .val (.int p3), .val (.int p4), .val (.int p5), .val (.int p6), .val (.int (0 : Int32)), .val (.int (1 : Int32)), .val (.ref b255), .val (.ref b256), .val (.ref b258), .val (.ref b265), .val (.int (0 : Int32))] [(.ref b256)])) _
        refine XS.iload X296.here hx rfl (hb hby at_102) rfl ?_
        show Steps p.tables e below (T296.setTop (mkF m 104 #[.val (.int p1), .val (.int p2), .val (.int p3), .val (.int p4), .val (.int p5), .val (.int p6), .val (.int (0 : Int32)), .val (.int (1 : Int32)), .val (.ref b255), .val (.ref b256), .val (.ref b258), .val (.ref b265), .val (.int (0 : Int32))] [(.int (0 : Int32)), (.ref b256)])) _
        refine XS.iload X296.here hx rfl (hb hby at_104) rfl ?_
        exact k
      obtain ⟨cl310, Ar310, q310, S310, M310, Ha310, G310⟩ := Q297
      have hin310 : ¬ ((0 : Int32) < 0 ∨ cl310.slots.size ≤ ((0 : Int32)).toNatClampNeg) := inb_of S310 ⟨by decide, by decide⟩
      obtain ⟨T310, h310, X310, e310, W310, st310⟩ := stI X296 hx hZ e296 Ar310 (j := (0 : Int32)) hin310 (g := (mkF m 106 #[.val (.int p1), .val (.int p2), .val (.int p3), .val (.int p4), .val (.int p5), .val (.int p6), .val (.int (0 : Int32)), .val (.int (1 : Int32)), .val (.ref b255), .val (.ref b256), .val (.ref b258), .val (.ref b265), .val (.int (0 : Int32))] [(.int p5), (.int (0 : Int32)), (.ref b256)])) rfl rfl (hb hby at_106)
      have Q311 : Exa Z h310 b258 "com/example/axiomwright/axiomwright/Arcs" := Q298.wr W310
      have Q312 : Fld Z h310 b258 "com/example/axiomwright/axiomwright/Arcs" "from" "[I" (.ref b1_261) := Q299.other W310 (Or.inl (Ne.symm ne258_b256))
      have Q313 : Fld Z h310 b258 "com/example/axiomwright/axiomwright/Arcs" "to" "[I" (.ref b2_261) := Q300.other W310 (Or.inl (Ne.symm ne258_b256))
      have Q314 : Fld Z h310 b258 "com/example/axiomwright/axiomwright/Arcs" "size" "I" (.int (0 : Int32)) := Q301.other W310 (Or.inl (Ne.symm ne258_b256))
      have Q315 : Arv Z h310 b1_261 k1_261 .int (16 : Int32) [(.int (0 : Int32)), (.int (0 : Int32)), (.int (0 : Int32)), (.int (0 : Int32)), (.int (0 : Int32)), (.int (0 : Int32)), (.int (0 : Int32)), (.int (0 : Int32)), (.int (0 : Int32)), (.int (0 : Int32)), (.int (0 : Int32)), (.int (0 : Int32)), (.int (0 : Int32)), (.int (0 : Int32)), (.int (0 : Int32)), (.int (0 : Int32))] (.int (0 : Int32)) := Q302.other W310 (Ne.symm ne_b256_b1_261)
      have Q316 : Arv Z h310 b2_261 k2_261 .int (16 : Int32) [(.int (0 : Int32)), (.int (0 : Int32)), (.int (0 : Int32)), (.int (0 : Int32)), (.int (0 : Int32)), (.int (0 : Int32)), (.int (0 : Int32)), (.int (0 : Int32)), (.int (0 : Int32)), (.int (0 : Int32)), (.int (0 : Int32)), (.int (0 : Int32)), (.int (0 : Int32)), (.int (0 : Int32)), (.int (0 : Int32)), (.int (0 : Int32))] (.int (0 : Int32)) := Q303.other W310 (Ne.symm ne_b256_b2_261)
      have Q317 : Exa Z h310 b265 "com/example/axiomwright/axiomwright/Arcs" := Q304.wr W310
      have Q318 : Fld Z h310 b265 "com/example/axiomwright/axiomwright/Arcs" "size" "I" (.int (1 : Int32)) := Q305.other W310 (Or.inl (Ne.symm ne265_b256))
      have Q319 : Fld Z h310 b265 "com/example/axiomwright/axiomwright/Arcs" "from" "[I" (.ref b1_274) := Q306.other W310 (Or.inl (Ne.symm ne265_b256))
      have Q320 : Fld Z h310 b265 "com/example/axiomwright/axiomwright/Arcs" "to" "[I" (.ref b2_274) := Q307.other W310 (Or.inl (Ne.symm ne265_b256))
      have Q321 : Arv Z h310 b1_274 k1_274 .int (16 : Int32) [(.int p4), (.int (0 : Int32)), (.int (0 : Int32)), (.int (0 : Int32)), (.int (0 : Int32)), (.int (0 : Int32)), (.int (0 : Int32)), (.int (0 : Int32)), (.int (0 : Int32)), (.int (0 : Int32)), (.int (0 : Int32)), (.int (0 : Int32)), (.int (0 : Int32)), (.int (0 : Int32)), (.int (0 : Int32)), (.int (0 : Int32))] (.int (0 : Int32)) := Q308.other W310 (Ne.symm ne_b256_b1_274)
      have Q322 : Arv Z h310 b2_274 k2_274 .int (16 : Int32) [(.int p5), (.int (0 : Int32)), (.int (0 : Int32)), (.int (0 : Int32)), (.int (0 : Int32)), (.int (0 : Int32)), (.int (0 : Int32)), (.int (0 : Int32)), (.int (0 : Int32)), (.int (0 : Int32)), (.int (0 : Int32)), (.int (0 : Int32)), (.int (0 : Int32)), (.int (0 : Int32)), (.int (0 : Int32)), (.int (0 : Int32))] (.int (0 : Int32)) := Q309.other W310 (Ne.symm ne_b256_b2_274)
      have Q323 : Arv Z h310 b255 k255 .int (3 : Int32) [(.int p4), (.int (0 : Int32)), (.int (0 : Int32))] (.int (0 : Int32)) := U296.other W310 ne256_b255
      have U310 : Arv Z h310 b256 k256 .int (3 : Int32) [(.int p5), (.int (0 : Int32)), (.int (0 : Int32))] (.int (0 : Int32)) := Arv.set Ar310 q310 S310 M310 Ha310 G310 rfl W310 0 rfl (Nat.le_of_ble_eq_true rfl)
      have Z310 : n0 ≤ h310.size := Nat.le_trans Z296 (Keep.of_wr W310).1
      have N310 := Fr.snoc X310 N296 low256
      have K310 := K296.wr W310 (Or.inr sz256)
      refine own_go st310 ?_
      refine own_go (A := T310.setTop (mkF m 107 #[.val (.int p1), .val (.int p2), .val (.int p3), .val (.int p4), .val (.int p5), .val (.int p6), .val (.int (0 : Int32)), .val (.int (1 : Int32)), .val (.ref b255), .val (.ref b256), .val (.ref b258), .val (.ref b265), .val (.int (0 : Int32))] [])) (B := T310.setTop (mkF m 144 #[.val (.int p1), .val (.int p2), .val (.int p3), .val (.int p4), .val (.int p5), .val (.int p6), .val (.int (0 : Int32)), .val (.int (1 : Int32)), .val (.ref b255), .val (.ref b256), .val (.ref b258), .val (.ref b265), .val (.int (1 : Int32))] [(.ref b265), (.ref b258)])) (fun t k => ?_) ?_
      · show Steps p.tables e below (T310.setTop (mkF m 107 #[.val (.int p1), .val (.int p2), .val (.int p3), .val (.int p4), .val (.int p5), .val (.int p6), .val (.int (0 : Int32)), .val (.int (1 : Int32)), .val (.ref b255), .val (.ref b256), .val (.ref b258), .val (.ref b265), .val (.int (0 : Int32))] [])) _
        refine XS.iinc X310.here hx rfl (hb hby at_107) rfl (l' := #[.val (.int p1), .val (.int p2), .val (.int p3), .val (.int p4), .val (.int p5), .val (.int p6), .val (.int (0 : Int32)), .val (.int (1 : Int32)), .val (.ref b255), .val (.ref b256), .val (.ref b258), .val (.ref b265), .val (.int (1 : Int32))]) rfl ?_
        show Steps p.tables e below (T310.setTop (mkF m 110 #[.val (.int p1), .val (.int p2), .val (.int p3), .val (.int p4), .val (.int p5), .val (.int p6), .val (.int (0 : Int32)), .val (.int (1 : Int32)), .val (.ref b255), .val (.ref b256), .val (.ref b258), .val (.ref b265), .val (.int (1 : Int32))] [])) _
        refine XS.iload X310.here hx rfl (hb hby at_110) rfl ?_
        show Steps p.tables e below (T310.setTop (mkF m 112 #[.val (.int p1), .val (.int p2), .val (.int p3), .val (.int p4), .val (.int p5), .val (.int p6), .val (.int (0 : Int32)), .val (.int (1 : Int32)), .val (.ref b255), .val (.ref b256), .val (.ref b258), .val (.ref b265), .val (.int (1 : Int32))] [(.int (1 : Int32))])) _
        refine XS.iconst X310.here hx rfl (hb hby at_112) ?_
        show Steps p.tables e below (T310.setTop (mkF m 113 #[.val (.int p1), .val (.int p2), .val (.int p3), .val (.int p4), .val (.int p5), .val (.int p6), .val (.int (0 : Int32)), .val (.int (1 : Int32)), .val (.ref b255), .val (.ref b256), .val (.ref b258), .val (.ref b265), .val (.int (1 : Int32))] [(.int (2 : Int32)), (.int (1 : Int32))])) _
        refine XS.icmpYes X310.here hx rfl (pc0 := 113) (pc' := 140) rfl (hb hby at_113) rfl (tlt (by decide : ((1 : Int32) < (2 : Int32)))).1 (by decide) (by decide) ?_
        show Steps p.tables e below (T310.setTop (mkF m 140 #[.val (.int p1), .val (.int p2), .val (.int p3), .val (.int p4), .val (.int p5), .val (.int p6), .val (.int (0 : Int32)), .val (.int (1 : Int32)), .val (.ref b255), .val (.ref b256), .val (.ref b258), .val (.ref b265), .val (.int (1 : Int32))] [])) _
        refine XS.aload X310.here hx rfl (hb hby at_140) rfl rfl ?_
        show Steps p.tables e below (T310.setTop (mkF m 142 #[.val (.int p1), .val (.int p2), .val (.int p3), .val (.int p4), .val (.int p5), .val (.int p6), .val (.int (0 : Int32)), .val (.int (1 : Int32)), .val (.ref b255), .val (.ref b256), .val (.ref b258), .val (.ref b265), .val (.int (1 : Int32))] [(.ref b258)])) _
        refine XS.aload X310.here hx rfl (hb hby at_142) rfl rfl ?_
        exact k
      obtain ⟨cq325, kq325, q325a, q325b, q325c⟩ := isOf hZ e310 Q311
      obtain ⟨_, _, ⟨T325, L325, k325, n325⟩, -, X325, ⟨Lc325, hQ325, l325, y325, z325⟩, st325⟩ := X310.virtualBack hx (y := (⟨"com/example/axiomwright/axiomwright/Arcs", "addAll", "(Lcom/example/axiomwright/axiomwright/Arcs;)V"⟩ : MethodName)) (z := (⟨"com/example/axiomwright/axiomwright/Arcs", "addAll", "(Lcom/example/axiomwright/axiomwright/Arcs;)V"⟩ : MethodName)) hown (mvT hZ (hw _ (List.mem_of_getElem? (i := 14) rfl))) (mvT hZ (hw _ (List.mem_of_getElem? (i := 15) rfl))) (notFace_of_selects (args := #[]) (mvT hZ (hw _ (List.mem_of_getElem? (i := 17) rfl)))) (mvT hZ (hw _ (List.mem_of_getElem? (i := 17) rfl))) (mvT hZ (hw _ (List.mem_of_getElem? (i := 16) rfl))) (by decide) (backOf (W := 0) (rm3_0_1 l Z a0 hw [] b258 b265 b1_261 b2_261 b1_274 b2_274 k1_261 k2_261 k1_274 k2_274 (0 : Int32) (0 : Int32) (0 : Int32) (0 : Int32) (0 : Int32) (0 : Int32) (0 : Int32) (0 : Int32) (0 : Int32) (0 : Int32) (0 : Int32) (0 : Int32) (0 : Int32) (0 : Int32) (0 : Int32) (0 : Int32) (0 : Int32) (0 : Int32) (0 : Int32) (0 : Int32) (0 : Int32) (0 : Int32) (0 : Int32) (0 : Int32) (0 : Int32) (0 : Int32) (0 : Int32) (0 : Int32) (0 : Int32) (0 : Int32) (0 : Int32) (0 : Int32) p4 (0 : Int32) (0 : Int32) (0 : Int32) (0 : Int32) (0 : Int32) (0 : Int32) (0 : Int32) (0 : Int32) (0 : Int32) (0 : Int32) (0 : Int32) (0 : Int32) (0 : Int32) (0 : Int32) (0 : Int32) p5 (0 : Int32) (0 : Int32) (0 : Int32) (0 : Int32) (0 : Int32) (0 : Int32) (0 : Int32) (0 : Int32) (0 : Int32) (0 : Int32) (0 : Int32) (0 : Int32) (0 : Int32) (0 : Int32) (0 : Int32) h310 n0 Z310 Q311 Q314 Q312 Q313 Q315 Q316 Q318 Q319 Q320 Q321 Q322 low258 low_b1_261 low_b2_261 ne_b258_b1_261 ne_b258_b2_261 pq261_0 (Ne.symm ne265_b258) (Ne.symm ne265_b1_261) (Ne.symm ne265_b2_261) (Ne.symm ne_b258_b1_274) (Ne.symm ne_b1_261_b1_274) (Ne.symm ne_b2_261_b1_274) (Ne.symm ne_b258_b2_274) (Ne.symm ne_b1_261_b2_274) (Ne.symm ne_b2_261_b2_274)) hZ (hw _ (List.mem_of_getElem? (i := 18) rfl)) (hw _ (List.mem_of_getElem? (i := 3) rfl)) (by decide) (by decide)) q325a q325c (g := (mkF m 144 #[.val (.int p1), .val (.int p2), .val (.int p3), .val (.int p4), .val (.int p5), .val (.int p6), .val (.int (0 : Int32)), .val (.int (1 : Int32)), .val (.ref b255), .val (.ref b256), .val (.ref b258), .val (.ref b265), .val (.int (1 : Int32))] [(.ref b265), (.ref b258)])) rfl (by rw [hml]; rfl) (Steps.refl _) (argsL := [(.ref b265)]) (rest := []) (lenOf pd_3 rfl) rfl (by show 2 * 0 + _ ≤ _; exact Nat.le_of_eq rfl) (hb hby at_144) (fun _ _ => ⟨rfl, e310, (by decide : 8 + 0 ≤ _), (by decide : 76 + 0 ≤ _)⟩)
      dsimp only [Pt.U, Pt.locs, Pt.cells, Pt.slots] at X325 l325 y325 z325 st325 hQ325
      subst l325 y325 z325
      obtain ⟨rfl, Nq325, Kq325, U325_0, U325_1, U325_2, U325_3, U325_4⟩ := hQ325
      have Q326 : Exa Z T325.heap b258 "com/example/axiomwright/axiomwright/Arcs" := Q311.keep Kq325
      have Q327 : Exa Z T325.heap b265 "com/example/axiomwright/axiomwright/Arcs" := Q317.keep Kq325
      have Q328 : Fld Z T325.heap b265 "com/example/axiomwright/axiomwright/Arcs" "size" "I" (.int (1 : Int32)) := Q318.keep Kq325 (ninS (Ne.symm ne265_b258) (ninS (Ne.symm ne265_b1_261) (ninS (Ne.symm ne265_b2_261) nin0)))
      have Q329 : Fld Z T325.heap b265 "com/example/axiomwright/axiomwright/Arcs" "from" "[I" (.ref b1_274) := Q319.keep Kq325 (ninS (Ne.symm ne265_b258) (ninS (Ne.symm ne265_b1_261) (ninS (Ne.symm ne265_b2_261) nin0)))
      have Q330 : Fld Z T325.heap b265 "com/example/axiomwright/axiomwright/Arcs" "to" "[I" (.ref b2_274) := Q320.keep Kq325 (ninS (Ne.symm ne265_b258) (ninS (Ne.symm ne265_b1_261) (ninS (Ne.symm ne265_b2_261) nin0)))
      have Q331 : Arv Z T325.heap b1_274 k1_274 .int (16 : Int32) [(.int p4), (.int (0 : Int32)), (.int (0 : Int32)), (.int (0 : Int32)), (.int (0 : Int32)), (.int (0 : Int32)), (.int (0 : Int32)), (.int (0 : Int32)), (.int (0 : Int32)), (.int (0 : Int32)), (.int (0 : Int32)), (.int (0 : Int32)), (.int (0 : Int32)), (.int (0 : Int32)), (.int (0 : Int32)), (.int (0 : Int32))] (.int (0 : Int32)) := Q321.keep Kq325 (ninS (Ne.symm ne_b258_b1_274) (ninS (Ne.symm ne_b1_261_b1_274) (ninS (Ne.symm ne_b2_261_b1_274) nin0)))
      have Q332 : Arv Z T325.heap b2_274 k2_274 .int (16 : Int32) [(.int p5), (.int (0 : Int32)), (.int (0 : Int32)), (.int (0 : Int32)), (.int (0 : Int32)), (.int (0 : Int32)), (.int (0 : Int32)), (.int (0 : Int32)), (.int (0 : Int32)), (.int (0 : Int32)), (.int (0 : Int32)), (.int (0 : Int32)), (.int (0 : Int32)), (.int (0 : Int32)), (.int (0 : Int32)), (.int (0 : Int32))] (.int (0 : Int32)) := Q322.keep Kq325 (ninS (Ne.symm ne_b258_b2_274) (ninS (Ne.symm ne_b1_261_b2_274) (ninS (Ne.symm ne_b2_261_b2_274) nin0)))
      have Q333 : Arv Z T325.heap b255 k255 .int (3 : Int32) [(.int p4), (.int (0 : Int32)), (.int (0 : Int32))] (.int (0 : Int32)) := Q323.keep Kq325 (ninS ne258_b255 (ninS ne_b255_b1_261 (ninS ne_b255_b2_261 nin0)))
      have Q334 : Arv Z T325.heap b256 k256 .int (3 : Int32) [(.int p5), (.int (0 : Int32)), (.int (0 : Int32))] (.int (0 : Int32)) := U310.keep Kq325 (ninS ne258_b256 (ninS ne_b256_b1_261 (ninS ne_b256_b2_261 nin0)))
      have Z325 : n0 ≤ T325.heap.size := Nat.le_trans Z310 Kq325.1
      have K325 : Keep h0 T325.heap [] := K310.trans Kq325 (allS (Or.inr sz258) (allS (Or.inr sz_b1_261) (allS (Or.inr sz_b2_261) all0)))
      have N325 := Fr.app N310 Nq325
      refine own_go (A := _) (B := T325.setTop (mkF m 147 #[.val (.int p1), .val (.int p2), .val (.int p3), .val (.int p4), .val (.int p5), .val (.int p6), .val (.int (0 : Int32)), .val (.int (1 : Int32)), .val (.ref b255), .val (.ref b256), .val (.ref b258), .val (.ref b265), .val (.int (1 : Int32))] [])) (fun t k => st325.trans k) ?_
      refine own_go (A := T325.setTop (mkF m 147 #[.val (.int p1), .val (.int p2), .val (.int p3), .val (.int p4), .val (.int p5), .val (.int p6), .val (.int (0 : Int32)), .val (.int (1 : Int32)), .val (.ref b255), .val (.ref b256), .val (.ref b258), .val (.ref b265), .val (.int (1 : Int32))] [])) (B := T325.setTop (mkF m 149 #[.val (.int p1), .val (.int p2), .val (.int p3), .val (.int p4), .val (.int p5), .val (.int p6), .val (.int (0 : Int32)), .val (.int (1 : Int32)), .val (.ref b255), .val (.ref b256), .val (.ref b258), .val (.ref b265), .val (.int (1 : Int32))] [(.ref b258)])) (fun t k => ?_) ?_
      · show Steps p.tables e below (T325.setTop (mkF m 147 #[.val (.int p1), .val (.int p2), .val (.int p3), .val (.int p4), .val (.int p5), .val (.int p6), .val (.int (0 : Int32)), .val (.int (1 : Int32)), .val (.ref b255), .val (.ref b256), .val (.ref b258), .val (.ref b265), .val (.int (1 : Int32))] [])) _
        refine XS.aload X325.here hx rfl (hb hby at_147) rfl rfl ?_
        exact k
      obtain ⟨cq335, kq335, q335a, q335b, q335c⟩ := isOf hZ rfl Q326
      obtain ⟨_, _, ⟨T335, L335, k335, n335⟩, -, X335, ⟨Lc335, hQ335, l335, y335, z335⟩, st335⟩ := X325.virtualBack hx (y := (⟨"com/example/axiomwright/axiomwright/Arcs", "size", "()I"⟩ : MethodName)) (z := (⟨"com/example/axiomwright/axiomwright/Arcs", "size", "()I"⟩ : MethodName)) hown (mvT hZ (hw _ (List.mem_of_getElem? (i := 21) rfl))) (mvT hZ (hw _ (List.mem_of_getElem? (i := 22) rfl))) (notFace_of_selects (args := #[]) (mvT hZ (hw _ (List.mem_of_getElem? (i := 24) rfl)))) (mvT hZ (hw _ (List.mem_of_getElem? (i := 24) rfl))) (mvT hZ (hw _ (List.mem_of_getElem? (i := 23) rfl))) (by decide) (backOf (W := 0) (rm4 l Z a0 hw [] b258 (1 : Int32) T325.heap n0 Z325 U325_0) hZ (hw _ (List.mem_of_getElem? (i := 25) rfl)) (hw _ (List.mem_of_getElem? (i := 3) rfl)) (by decide) (by decide)) q335a q335c (g := (mkF m 149 #[.val (.int p1), .val (.int p2), .val (.int p3), .val (.int p4), .val (.int p5), .val (.int p6), .val (.int (0 : Int32)), .val (.int (1 : Int32)), .val (.ref b255), .val (.ref b256), .val (.ref b258), .val (.ref b265), .val (.int (1 : Int32))] [(.ref b258)])) rfl (by rw [hml]; rfl) (Steps.refl _) (argsL := []) (rest := []) (lenOf pd_4 rfl) rfl (by show 2 * 0 + _ ≤ _; exact Nat.le_of_eq rfl) (hb hby at_149) (fun _ _ => ⟨rfl, rfl, (by decide : 8 + 0 ≤ _), (by decide : 76 + 0 ≤ _)⟩)
      dsimp only [Pt.U, Pt.locs, Pt.cells, Pt.slots] at X335 l335 y335 z335 st335 hQ335
      subst l335 y335 z335
      obtain ⟨rfl, Nq335, e335⟩ := hQ335
      have N335 := Fr.app N325 Nq335
      refine own_go (A := _) (B := T335.setTop (mkF m 152 #[.val (.int p1), .val (.int p2), .val (.int p3), .val (.int p4), .val (.int p5), .val (.int p6), .val (.int (0 : Int32)), .val (.int (1 : Int32)), .val (.ref b255), .val (.ref b256), .val (.ref b258), .val (.ref b265), .val (.int (1 : Int32))] [(.int (1 : Int32))])) (fun t k => st335.trans k) ?_
      refine own_go (A := T335.setTop (mkF m 152 #[.val (.int p1), .val (.int p2), .val (.int p3), .val (.int p4), .val (.int p5), .val (.int p6), .val (.int (0 : Int32)), .val (.int (1 : Int32)), .val (.ref b255), .val (.ref b256), .val (.ref b258), .val (.ref b265), .val (.int (1 : Int32))] [(.int (1 : Int32))])) (B := T335.setTop (mkF m 161 #[.val (.int p1), .val (.int p2), .val (.int p3), .val (.int p4), .val (.int p5), .val (.int p6), .val (.int (0 : Int32)), .val (.int (1 : Int32)), .val (.ref b255), .val (.ref b256), .val (.ref b258), .val (.ref b265), .val (.int (1 : Int32))] [(.ref b265)])) (fun t k => ?_) ?_
      · show Steps p.tables e below (T335.setTop (mkF m 152 #[.val (.int p1), .val (.int p2), .val (.int p3), .val (.int p4), .val (.int p5), .val (.int p6), .val (.int (0 : Int32)), .val (.int (1 : Int32)), .val (.ref b255), .val (.ref b256), .val (.ref b258), .val (.ref b265), .val (.int (1 : Int32))] [(.int (1 : Int32))])) _
        refine XS.iload X335.here hx rfl (hb hby at_152) rfl ?_
        show Steps p.tables e below (T335.setTop (mkF m 154 #[.val (.int p1), .val (.int p2), .val (.int p3), .val (.int p4), .val (.int p5), .val (.int p6), .val (.int (0 : Int32)), .val (.int (1 : Int32)), .val (.ref b255), .val (.ref b256), .val (.ref b258), .val (.ref b265), .val (.int (1 : Int32))] [(.int (1 : Int32)), (.int (1 : Int32))])) _
        refine XS.icmpYes X335.here hx rfl (pc0 := 154) (pc' := 159) rfl (hb hby at_154) rfl (teq (rfl : (1 : Int32) = (1 : Int32))).1 (by decide) (by decide) ?_
        show Steps p.tables e below (T335.setTop (mkF m 159 #[.val (.int p1), .val (.int p2), .val (.int p3), .val (.int p4), .val (.int p5), .val (.int p6), .val (.int (0 : Int32)), .val (.int (1 : Int32)), .val (.ref b255), .val (.ref b256), .val (.ref b258), .val (.ref b265), .val (.int (1 : Int32))] [])) _
        refine XS.aload X335.here hx rfl (hb hby at_159) rfl rfl ?_
        exact k
      obtain ⟨cq337, kq337, q337a, q337b, q337c⟩ := isOf hZ e335 Q327
      obtain ⟨_, _, ⟨T337, L337, k337, n337⟩, -, X337, ⟨Lc337, hQ337, l337, y337, z337⟩, st337⟩ := X335.virtualBack hx (y := (⟨"com/example/axiomwright/axiomwright/Arcs", "size", "()I"⟩ : MethodName)) (z := (⟨"com/example/axiomwright/axiomwright/Arcs", "size", "()I"⟩ : MethodName)) hown (mvT hZ (hw _ (List.mem_of_getElem? (i := 21) rfl))) (mvT hZ (hw _ (List.mem_of_getElem? (i := 22) rfl))) (notFace_of_selects (args := #[]) (mvT hZ (hw _ (List.mem_of_getElem? (i := 24) rfl)))) (mvT hZ (hw _ (List.mem_of_getElem? (i := 24) rfl))) (mvT hZ (hw _ (List.mem_of_getElem? (i := 23) rfl))) (by decide) (backOf (W := 0) (rm4 l Z a0 hw [] b265 (1 : Int32) T325.heap n0 Z325 Q328) hZ (hw _ (List.mem_of_getElem? (i := 25) rfl)) (hw _ (List.mem_of_getElem? (i := 3) rfl)) (by decide) (by decide)) q337a q337c (g := (mkF m 161 #[.val (.int p1), .val (.int p2), .val (.int p3), .val (.int p4), .val (.int p5), .val (.int p6), .val (.int (0 : Int32)), .val (.int (1 : Int32)), .val (.ref b255), .val (.ref b256), .val (.ref b258), .val (.ref b265), .val (.int (1 : Int32))] [(.ref b265)])) rfl (by rw [hml]; rfl) (Steps.refl _) (argsL := []) (rest := []) (lenOf pd_4 rfl) rfl (by show 2 * 0 + _ ≤ _; exact Nat.le_of_eq rfl) (hb hby at_161) (fun _ _ => ⟨rfl, e335, (by decide : 8 + 0 ≤ _), (by decide : 76 + 0 ≤ _)⟩)
      dsimp only [Pt.U, Pt.locs, Pt.cells, Pt.slots] at X337 l337 y337 z337 st337 hQ337
      subst l337 y337 z337
      obtain ⟨rfl, Nq337, e337⟩ := hQ337
      have N337 := Fr.app N335 Nq337
      refine own_go (A := _) (B := T337.setTop (mkF m 164 #[.val (.int p1), .val (.int p2), .val (.int p3), .val (.int p4), .val (.int p5), .val (.int p6), .val (.int (0 : Int32)), .val (.int (1 : Int32)), .val (.ref b255), .val (.ref b256), .val (.ref b258), .val (.ref b265), .val (.int (1 : Int32))] [(.int (1 : Int32))])) (fun t k => st337.trans k) ?_
      refine own_go (A := T337.setTop (mkF m 164 #[.val (.int p1), .val (.int p2), .val (.int p3), .val (.int p4), .val (.int p5), .val (.int p6), .val (.int (0 : Int32)), .val (.int (1 : Int32)), .val (.ref b255), .val (.ref b256), .val (.ref b258), .val (.ref b265), .val (.int (1 : Int32))] [(.int (1 : Int32))])) (B := T337.setTop (mkF m 180 #[.val (.int p1), .val (.int p2), .val (.int p3), .val (.int p4), .val (.int p5), .val (.int p6), .val (.int (0 : Int32)), .val (.int (1 : Int32)), .val (.ref b255), .val (.ref b256), .val (.ref b258), .val (.ref b265), .val (.int (1 : Int32))] [(.ref b256), (.ref b255), (.int (1 : Int32)), (.int (0 : Int32)), (.ref b258)])) (fun t k => ?_) ?_
      · show Steps p.tables e below (T337.setTop (mkF m 164 #[.val (.int p1), .val (.int p2), .val (.int p3), .val (.int p4), .val (.int p5), .val (.int p6), .val (.int (0 : Int32)), .val (.int (1 : Int32)), .val (.ref b255), .val (.ref b256), .val (.ref b258), .val (.ref b265), .val (.int (1 : Int32))] [(.int (1 : Int32))])) _
        refine XS.iload X337.here hx rfl (hb hby at_164) rfl ?_
        show Steps p.tables e below (T337.setTop (mkF m 166 #[.val (.int p1), .val (.int p2), .val (.int p3), .val (.int p4), .val (.int p5), .val (.int p6), .val (.int (0 : Int32)), .val (.int (1 : Int32)), .val (.ref b255), .val (.ref b256), .val (.ref b258), .val (.ref b265), .val (.int (1 : Int32))] [(.int (1 : Int32)), (.int (1 : Int32))])) _
        refine XS.icmpYes X337.here hx rfl (pc0 := 166) (pc' := 171) rfl (hb hby at_166) rfl (teq (rfl : (1 : Int32) = (1 : Int32))).1 (by decide) (by decide) ?_
        show Steps p.tables e below (T337.setTop (mkF m 171 #[.val (.int p1), .val (.int p2), .val (.int p3), .val (.int p4), .val (.int p5), .val (.int p6), .val (.int (0 : Int32)), .val (.int (1 : Int32)), .val (.ref b255), .val (.ref b256), .val (.ref b258), .val (.ref b265), .val (.int (1 : Int32))] [])) _
        refine XS.aload X337.here hx rfl (hb hby at_171) rfl rfl ?_
        show Steps p.tables e below (T337.setTop (mkF m 173 #[.val (.int p1), .val (.int p2), .val (.int p3), .val (.int p4), .val (.int p5), .val (.int p6), .val (.int (0 : Int32)), .val (.int (1 : Int32)), .val (.ref b255), .val (.ref b256), .val (.ref b258), .val (.ref b265), .val (.int (1 : Int32))] [(.ref b258)])) _
        refine XS.iconst X337.here hx rfl (hb hby at_173) ?_
        show Steps p.tables e below (T337.setTop (mkF m 174 #[.val (.int p1), .val (.int p2), .val (.int p3), .val (.int p4), .val (.int p5), .val (.int p6), .val (.int (0 : Int32)), .val (.int (1 : Int32)), .val (.ref b255), .val (.ref b256), .val (.ref b258), .val (.ref b265), .val (.int (1 : Int32))] [(.int (0 : Int32)), (.ref b258)])) _
        refine XS.iload X337.here hx rfl (hb hby at_174) rfl ?_
        show Steps p.tables e below (T337.setTop (mkF m 176 #[.val (.int p1), .val (.int p2), .val (.int p3), .val (.int p4), .val (.int p5), .val (.int p6), .val (.int (0 : Int32)), .val (.int (1 : Int32)), .val (.ref b255), .val (.ref b256), .val (.ref b258), .val (.ref b265), .val (.int (1 : Int32))] [(.int (1 : Int32)), (.int (0 : Int32)), (.ref b258)])) _
        refine XS.aload X337.here hx rfl (hb hby at_176) rfl rfl ?_
        show Steps p.tables e below (T337.setTop (mkF m 178 #[.val (.int p1), .val (.int p2), .val (.int p3), .val (.int p4), .val (.int p5), .val (.int p6), .val (.int (0 : Int32)), .val (.int (1 : Int32)), .val (.ref b255), .val (.ref b256), .val (.ref b258), .val (.ref b265), .val (.int (1 : Int32))] [(.ref b255), (.int (1 : Int32)), (.int (0 : Int32)), (.ref b258)])) _
        refine XS.aload X337.here hx rfl (hb hby at_178) rfl rfl ?_
        exact k
      obtain ⟨_, _, ⟨T339, L339, k339, n339⟩, -, X339, ⟨Lc339, hQ339, l339, y339, z339⟩, st339⟩ := Jvm.LawKit.callS X337 hx (y := (⟨"com/example/axiomwright/axiomwright/ArcsAddAllPinLaw", "at", "(Lcom/example/axiomwright/axiomwright/Arcs;II[I[I)Z"⟩ : MethodName)) hown (mvT hZ (hw _ (List.mem_of_getElem? (i := 26) rfl))) (mvT hZ (hw _ (List.mem_of_getElem? (i := 27) rfl))) (mvT hZ (hw _ (List.mem_of_getElem? (i := 28) rfl))) (mvT hZ (hw _ (List.mem_of_getElem? (i := 29) rfl))) (by decide) (backOf (W := 0) (rm5_0_1 l Z a0 hw [] b258 b255 b256 b1_261 b2_261 k1_261 k2_261 k255 k256 p4 (0 : Int32) (0 : Int32) (0 : Int32) (0 : Int32) (0 : Int32) (0 : Int32) (0 : Int32) (0 : Int32) (0 : Int32) (0 : Int32) (0 : Int32) (0 : Int32) (0 : Int32) (0 : Int32) (0 : Int32) p5 (0 : Int32) (0 : Int32) (0 : Int32) (0 : Int32) (0 : Int32) (0 : Int32) (0 : Int32) (0 : Int32) (0 : Int32) (0 : Int32) (0 : Int32) (0 : Int32) (0 : Int32) (0 : Int32) (0 : Int32) p4 (0 : Int32) (0 : Int32) p5 (0 : Int32) (0 : Int32) T325.heap n0 Z325 Q326 U325_1 U325_2 U325_3 U325_4 Q333 Q334) hZ (hw _ (List.mem_of_getElem? (i := 29) rfl)) (hw _ (List.mem_of_getElem? (i := 28) rfl)) (by decide) (by decide)) (g := (mkF m 180 #[.val (.int p1), .val (.int p2), .val (.int p3), .val (.int p4), .val (.int p5), .val (.int p6), .val (.int (0 : Int32)), .val (.int (1 : Int32)), .val (.ref b255), .val (.ref b256), .val (.ref b258), .val (.ref b265), .val (.int (1 : Int32))] [(.ref b256), (.ref b255), (.int (1 : Int32)), (.int (0 : Int32)), (.ref b258)])) rfl (by rw [hml]; rfl) (argsL := [(.ref b258), (.int (0 : Int32)), (.int (1 : Int32)), (.ref b255), (.ref b256)]) (rest := []) (lenOf pd_5 rfl) rfl (by show 2 * 0 + _ ≤ _; exact Nat.le_of_eq rfl) (hb hby at_180) (fun _ _ => ⟨rfl, e337, (by decide : 8 + 0 ≤ _), (by decide : 76 + 0 ≤ _)⟩)
      dsimp only [Pt.U, Pt.locs, Pt.cells, Pt.slots] at X339 l339 y339 z339 st339 hQ339
      subst l339 y339 z339
      obtain ⟨rfl, Nq339, e339⟩ := hQ339
      have N339 := Fr.app N337 Nq339
      refine own_go (A := _) (B := T339.setTop (mkF m 183 #[.val (.int p1), .val (.int p2), .val (.int p3), .val (.int p4), .val (.int p5), .val (.int p6), .val (.int (0 : Int32)), .val (.int (1 : Int32)), .val (.ref b255), .val (.ref b256), .val (.ref b258), .val (.ref b265), .val (.int (1 : Int32))] [(.int (frm5_0_1 p4 p5 p4 p5))])) st339 ?_
      have hc183_340 : ¬ ((frm5_0_1 p4 p5 p4 p5) = (0 : Int32)) := by simp [frm5_0_1]
      refine own_go (A := T339.setTop (mkF m 183 #[.val (.int p1), .val (.int p2), .val (.int p3), .val (.int p4), .val (.int p5), .val (.int p6), .val (.int (0 : Int32)), .val (.int (1 : Int32)), .val (.ref b255), .val (.ref b256), .val (.ref b258), .val (.ref b265), .val (.int (1 : Int32))] [(.int (frm5_0_1 p4 p5 p4 p5))])) (B := T339.setTop (mkF m 195 #[.val (.int p1), .val (.int p2), .val (.int p3), .val (.int p4), .val (.int p5), .val (.int p6), .val (.int (0 : Int32)), .val (.int (1 : Int32)), .val (.ref b255), .val (.ref b256), .val (.ref b258), .val (.ref b265), .val (.int (1 : Int32))] [(.ref b256), (.ref b255), (.int (1 : Int32)), (.int (1 : Int32)), (.ref b258)])) (fun t k => ?_) ?_
      · show Steps p.tables e below (T339.setTop (mkF m 183 #[.val (.int p1), .val (.int p2), .val (.int p3), .val (.int p4), .val (.int p5), .val (.int p6), .val (.int (0 : Int32)), .val (.int (1 : Int32)), .val (.ref b255), .val (.ref b256), .val (.ref b258), .val (.ref b265), .val (.int (1 : Int32))] [(.int (frm5_0_1 p4 p5 p4 p5))])) _
        refine XS.ifNo X339.here hx rfl (hb hby at_183) rfl ((if0 _ _).trans (feq hc183_340).1) ?_
        show Steps p.tables e below (T339.setTop (mkF m 186 #[.val (.int p1), .val (.int p2), .val (.int p3), .val (.int p4), .val (.int p5), .val (.int p6), .val (.int (0 : Int32)), .val (.int (1 : Int32)), .val (.ref b255), .val (.ref b256), .val (.ref b258), .val (.ref b265), .val (.int (1 : Int32))] [])) _
        refine XS.aload X339.here hx rfl (hb hby at_186) rfl rfl ?_
        show Steps p.tables e below (T339.setTop (mkF m 188 #[.val (.int p1), .val (.int p2), .val (.int p3), .val (.int p4), .val (.int p5), .val (.int p6), .val (.int (0 : Int32)), .val (.int (1 : Int32)), .val (.ref b255), .val (.ref b256), .val (.ref b258), .val (.ref b265), .val (.int (1 : Int32))] [(.ref b258)])) _
        refine XS.iconst X339.here hx rfl (hb hby at_188) ?_
        show Steps p.tables e below (T339.setTop (mkF m 189 #[.val (.int p1), .val (.int p2), .val (.int p3), .val (.int p4), .val (.int p5), .val (.int p6), .val (.int (0 : Int32)), .val (.int (1 : Int32)), .val (.ref b255), .val (.ref b256), .val (.ref b258), .val (.ref b265), .val (.int (1 : Int32))] [(.int (1 : Int32)), (.ref b258)])) _
        refine XS.iload X339.here hx rfl (hb hby at_189) rfl ?_
        show Steps p.tables e below (T339.setTop (mkF m 191 #[.val (.int p1), .val (.int p2), .val (.int p3), .val (.int p4), .val (.int p5), .val (.int p6), .val (.int (0 : Int32)), .val (.int (1 : Int32)), .val (.ref b255), .val (.ref b256), .val (.ref b258), .val (.ref b265), .val (.int (1 : Int32))] [(.int (1 : Int32)), (.int (1 : Int32)), (.ref b258)])) _
        refine XS.aload X339.here hx rfl (hb hby at_191) rfl rfl ?_
        show Steps p.tables e below (T339.setTop (mkF m 193 #[.val (.int p1), .val (.int p2), .val (.int p3), .val (.int p4), .val (.int p5), .val (.int p6), .val (.int (0 : Int32)), .val (.int (1 : Int32)), .val (.ref b255), .val (.ref b256), .val (.ref b258), .val (.ref b265), .val (.int (1 : Int32))] [(.ref b255), (.int (1 : Int32)), (.int (1 : Int32)), (.ref b258)])) _
        refine XS.aload X339.here hx rfl (hb hby at_193) rfl rfl ?_
        exact k
      obtain ⟨_, _, ⟨T341, L341, k341, n341⟩, -, X341, ⟨Lc341, hQ341, l341, y341, z341⟩, st341⟩ := Jvm.LawKit.callS X339 hx (y := (⟨"com/example/axiomwright/axiomwright/ArcsAddAllPinLaw", "at", "(Lcom/example/axiomwright/axiomwright/Arcs;II[I[I)Z"⟩ : MethodName)) hown (mvT hZ (hw _ (List.mem_of_getElem? (i := 26) rfl))) (mvT hZ (hw _ (List.mem_of_getElem? (i := 27) rfl))) (mvT hZ (hw _ (List.mem_of_getElem? (i := 28) rfl))) (mvT hZ (hw _ (List.mem_of_getElem? (i := 29) rfl))) (by decide) (backOf (W := 0) (rm5_1_1 l Z a0 hw [] b258 b255 b256 T325.heap n0 Z325 ) hZ (hw _ (List.mem_of_getElem? (i := 29) rfl)) (hw _ (List.mem_of_getElem? (i := 28) rfl)) (by decide) (by decide)) (g := (mkF m 195 #[.val (.int p1), .val (.int p2), .val (.int p3), .val (.int p4), .val (.int p5), .val (.int p6), .val (.int (0 : Int32)), .val (.int (1 : Int32)), .val (.ref b255), .val (.ref b256), .val (.ref b258), .val (.ref b265), .val (.int (1 : Int32))] [(.ref b256), (.ref b255), (.int (1 : Int32)), (.int (1 : Int32)), (.ref b258)])) rfl (by rw [hml]; rfl) (argsL := [(.ref b258), (.int (1 : Int32)), (.int (1 : Int32)), (.ref b255), (.ref b256)]) (rest := []) (lenOf pd_5 rfl) rfl (by show 2 * 0 + _ ≤ _; exact Nat.le_of_eq rfl) (hb hby at_195) (fun _ _ => ⟨rfl, e339, (by decide : 8 + 0 ≤ _), (by decide : 76 + 0 ≤ _)⟩)
      dsimp only [Pt.U, Pt.locs, Pt.cells, Pt.slots] at X341 l341 y341 z341 st341 hQ341
      subst l341 y341 z341
      obtain ⟨rfl, Nq341, e341⟩ := hQ341
      have N341 := Fr.app N339 Nq341
      refine own_go (A := _) (B := T341.setTop (mkF m 198 #[.val (.int p1), .val (.int p2), .val (.int p3), .val (.int p4), .val (.int p5), .val (.int p6), .val (.int (0 : Int32)), .val (.int (1 : Int32)), .val (.ref b255), .val (.ref b256), .val (.ref b258), .val (.ref b265), .val (.int (1 : Int32))] [(.int (1 : Int32))])) st341 ?_
      refine own_go (A := T341.setTop (mkF m 198 #[.val (.int p1), .val (.int p2), .val (.int p3), .val (.int p4), .val (.int p5), .val (.int p6), .val (.int (0 : Int32)), .val (.int (1 : Int32)), .val (.ref b255), .val (.ref b256), .val (.ref b258), .val (.ref b265), .val (.int (1 : Int32))] [(.int (1 : Int32))])) (B := T341.setTop (mkF m 210 #[.val (.int p1), .val (.int p2), .val (.int p3), .val (.int p4), .val (.int p5), .val (.int p6), .val (.int (0 : Int32)), .val (.int (1 : Int32)), .val (.ref b255), .val (.ref b256), .val (.ref b258), .val (.ref b265), .val (.int (1 : Int32))] [(.ref b256), (.ref b255), (.int (1 : Int32)), (.int (2 : Int32)), (.ref b258)])) (fun t k => ?_) ?_
      · show Steps p.tables e below (T341.setTop (mkF m 198 #[.val (.int p1), .val (.int p2), .val (.int p3), .val (.int p4), .val (.int p5), .val (.int p6), .val (.int (0 : Int32)), .val (.int (1 : Int32)), .val (.ref b255), .val (.ref b256), .val (.ref b258), .val (.ref b265), .val (.int (1 : Int32))] [(.int (1 : Int32))])) _
        refine XS.ifNo X341.here hx rfl (hb hby at_198) rfl ((if0 _ _).trans (feq (by decide : ¬ ((1 : Int32) = (0 : Int32)))).1) ?_
        show Steps p.tables e below (T341.setTop (mkF m 201 #[.val (.int p1), .val (.int p2), .val (.int p3), .val (.int p4), .val (.int p5), .val (.int p6), .val (.int (0 : Int32)), .val (.int (1 : Int32)), .val (.ref b255), .val (.ref b256), .val (.ref b258), .val (.ref b265), .val (.int (1 : Int32))] [])) _
        refine XS.aload X341.here hx rfl (hb hby at_201) rfl rfl ?_
        show Steps p.tables e below (T341.setTop (mkF m 203 #[.val (.int p1), .val (.int p2), .val (.int p3), .val (.int p4), .val (.int p5), .val (.int p6), .val (.int (0 : Int32)), .val (.int (1 : Int32)), .val (.ref b255), .val (.ref b256), .val (.ref b258), .val (.ref b265), .val (.int (1 : Int32))] [(.ref b258)])) _
        refine XS.iconst X341.here hx rfl (hb hby at_203) ?_
        show Steps p.tables e below (T341.setTop (mkF m 204 #[.val (.int p1), .val (.int p2), .val (.int p3), .val (.int p4), .val (.int p5), .val (.int p6), .val (.int (0 : Int32)), .val (.int (1 : Int32)), .val (.ref b255), .val (.ref b256), .val (.ref b258), .val (.ref b265), .val (.int (1 : Int32))] [(.int (2 : Int32)), (.ref b258)])) _
        refine XS.iload X341.here hx rfl (hb hby at_204) rfl ?_
        show Steps p.tables e below (T341.setTop (mkF m 206 #[.val (.int p1), .val (.int p2), .val (.int p3), .val (.int p4), .val (.int p5), .val (.int p6), .val (.int (0 : Int32)), .val (.int (1 : Int32)), .val (.ref b255), .val (.ref b256), .val (.ref b258), .val (.ref b265), .val (.int (1 : Int32))] [(.int (1 : Int32)), (.int (2 : Int32)), (.ref b258)])) _
        refine XS.aload X341.here hx rfl (hb hby at_206) rfl rfl ?_
        show Steps p.tables e below (T341.setTop (mkF m 208 #[.val (.int p1), .val (.int p2), .val (.int p3), .val (.int p4), .val (.int p5), .val (.int p6), .val (.int (0 : Int32)), .val (.int (1 : Int32)), .val (.ref b255), .val (.ref b256), .val (.ref b258), .val (.ref b265), .val (.int (1 : Int32))] [(.ref b255), (.int (1 : Int32)), (.int (2 : Int32)), (.ref b258)])) _
        refine XS.aload X341.here hx rfl (hb hby at_208) rfl rfl ?_
        exact k
      obtain ⟨_, _, ⟨T343, L343, k343, n343⟩, -, X343, ⟨Lc343, hQ343, l343, y343, z343⟩, st343⟩ := Jvm.LawKit.callS X341 hx (y := (⟨"com/example/axiomwright/axiomwright/ArcsAddAllPinLaw", "at", "(Lcom/example/axiomwright/axiomwright/Arcs;II[I[I)Z"⟩ : MethodName)) hown (mvT hZ (hw _ (List.mem_of_getElem? (i := 26) rfl))) (mvT hZ (hw _ (List.mem_of_getElem? (i := 27) rfl))) (mvT hZ (hw _ (List.mem_of_getElem? (i := 28) rfl))) (mvT hZ (hw _ (List.mem_of_getElem? (i := 29) rfl))) (by decide) (backOf (W := 0) (rm5_2_1 l Z a0 hw [] b258 b255 b256 T325.heap n0 Z325 ) hZ (hw _ (List.mem_of_getElem? (i := 29) rfl)) (hw _ (List.mem_of_getElem? (i := 28) rfl)) (by decide) (by decide)) (g := (mkF m 210 #[.val (.int p1), .val (.int p2), .val (.int p3), .val (.int p4), .val (.int p5), .val (.int p6), .val (.int (0 : Int32)), .val (.int (1 : Int32)), .val (.ref b255), .val (.ref b256), .val (.ref b258), .val (.ref b265), .val (.int (1 : Int32))] [(.ref b256), (.ref b255), (.int (1 : Int32)), (.int (2 : Int32)), (.ref b258)])) rfl (by rw [hml]; rfl) (argsL := [(.ref b258), (.int (2 : Int32)), (.int (1 : Int32)), (.ref b255), (.ref b256)]) (rest := []) (lenOf pd_5 rfl) rfl (by show 2 * 0 + _ ≤ _; exact Nat.le_of_eq rfl) (hb hby at_210) (fun _ _ => ⟨rfl, e341, (by decide : 8 + 0 ≤ _), (by decide : 76 + 0 ≤ _)⟩)
      dsimp only [Pt.U, Pt.locs, Pt.cells, Pt.slots] at X343 l343 y343 z343 st343 hQ343
      subst l343 y343 z343
      obtain ⟨rfl, Nq343, e343⟩ := hQ343
      have N343 := Fr.app N341 Nq343
      refine own_go (A := _) (B := T343.setTop (mkF m 213 #[.val (.int p1), .val (.int p2), .val (.int p3), .val (.int p4), .val (.int p5), .val (.int p6), .val (.int (0 : Int32)), .val (.int (1 : Int32)), .val (.ref b255), .val (.ref b256), .val (.ref b258), .val (.ref b265), .val (.int (1 : Int32))] [(.int (1 : Int32))])) st343 ?_
      refine own_go (A := T343.setTop (mkF m 213 #[.val (.int p1), .val (.int p2), .val (.int p3), .val (.int p4), .val (.int p5), .val (.int p6), .val (.int (0 : Int32)), .val (.int (1 : Int32)), .val (.ref b255), .val (.ref b256), .val (.ref b258), .val (.ref b265), .val (.int (1 : Int32))] [(.int (1 : Int32))])) (B := T343.setTop (mkF m 221 #[.val (.int p1), .val (.int p2), .val (.int p3), .val (.int p4), .val (.int p5), .val (.int p6), .val (.int (0 : Int32)), .val (.int (1 : Int32)), .val (.ref b255), .val (.ref b256), .val (.ref b258), .val (.ref b265), .val (.int (1 : Int32))] [(.int (1 : Int32))])) (fun t k => ?_) ?_
      · show Steps p.tables e below (T343.setTop (mkF m 213 #[.val (.int p1), .val (.int p2), .val (.int p3), .val (.int p4), .val (.int p5), .val (.int p6), .val (.int (0 : Int32)), .val (.int (1 : Int32)), .val (.ref b255), .val (.ref b256), .val (.ref b258), .val (.ref b265), .val (.int (1 : Int32))] [(.int (1 : Int32))])) _
        refine XS.ifNo X343.here hx rfl (hb hby at_213) rfl ((if0 _ _).trans (feq (by decide : ¬ ((1 : Int32) = (0 : Int32)))).1) ?_
        show Steps p.tables e below (T343.setTop (mkF m 216 #[.val (.int p1), .val (.int p2), .val (.int p3), .val (.int p4), .val (.int p5), .val (.int p6), .val (.int (0 : Int32)), .val (.int (1 : Int32)), .val (.ref b255), .val (.ref b256), .val (.ref b258), .val (.ref b265), .val (.int (1 : Int32))] [])) _
        refine XS.iconst X343.here hx rfl (hb hby at_216) ?_
        show Steps p.tables e below (T343.setTop (mkF m 217 #[.val (.int p1), .val (.int p2), .val (.int p3), .val (.int p4), .val (.int p5), .val (.int p6), .val (.int (0 : Int32)), .val (.int (1 : Int32)), .val (.ref b255), .val (.ref b256), .val (.ref b258), .val (.ref b265), .val (.int (1 : Int32))] [(.int (1 : Int32))])) _
        refine XS.goto X343.here hx rfl (pc0 := 217) (pc' := 221) rfl (hb hby at_217) (by decide) (by decide) ?_
        exact k
      obtain ⟨fs, hr, hrun, hended, hW, hsame⟩ := X343.leave (v := some (.int (1 : Int32))) (fun h => by rw [Bd.returns] at h; cases h)
      refine ⟨_, _, ?_, hrun, hended, _, _, rfl, ?_, ⟨_, rfl⟩, hW, hsame.mono (by decide) (by decide)⟩
      · show Steps p.tables e below (T343.setTop (mkF m 221 #[.val (.int p1), .val (.int p2), .val (.int p3), .val (.int p4), .val (.int p5), .val (.int p6), .val (.int (0 : Int32)), .val (.int (1 : Int32)), .val (.ref b255), .val (.ref b256), .val (.ref b258), .val (.ref b265), .val (.int (1 : Int32))] [(.int (1 : Int32))])) _
        exact retN X343 hx (t := .boolean) Bd.returns (by simp) (hb hby at_221) hr
      · show Qrm0 Z p1 p2 p3 p4 p5 p6 h0 n0 _ T343.heap _
        rw [e343]
        exact ⟨rfl, N343⟩
    · rw [hk202]
      refine own_go (A := s₁.setTop (mkF m 20 #[.val (.int p1), .val (.int p2), .val (.int p3), .val (.int p4), .val (.int p5), .val (.int p6), .val (.int (0 : Int32)), .unset, .unset, .unset, .unset, .unset, .unset] [(.int (2 : Int32))])) (B := s₁.setTop (mkF m 23 #[.val (.int p1), .val (.int p2), .val (.int p3), .val (.int p4), .val (.int p5), .val (.int p6), .val (.int (0 : Int32)), .val (.int (2 : Int32)), .unset, .unset, .unset, .unset, .unset] [(.int (3 : Int32))])) (fun t k => ?_) ?_
      · show Steps p.tables e below (s₁.setTop (mkF m 20 #[.val (.int p1), .val (.int p2), .val (.int p3), .val (.int p4), .val (.int p5), .val (.int p6), .val (.int (0 : Int32)), .unset, .unset, .unset, .unset, .unset, .unset] [(.int (2 : Int32))])) _
        refine XS.istore X0.here hx rfl (hb hby at_20) rfl (l' := #[.val (.int p1), .val (.int p2), .val (.int p3), .val (.int p4), .val (.int p5), .val (.int p6), .val (.int (0 : Int32)), .val (.int (2 : Int32)), .unset, .unset, .unset, .unset, .unset]) rfl ?_
        show Steps p.tables e below (s₁.setTop (mkF m 22 #[.val (.int p1), .val (.int p2), .val (.int p3), .val (.int p4), .val (.int p5), .val (.int p6), .val (.int (0 : Int32)), .val (.int (2 : Int32)), .unset, .unset, .unset, .unset, .unset] [])) _
        refine XS.iconst X0.here hx rfl (hb hby at_22) ?_
        exact k
      obtain ⟨T345, h345, k345, X345, e345, E345, A345, st345⟩ := newP X0 hx hZ (hw _ (List.mem_of_getElem? (i := 0) rfl)) e0 (g := (mkF m 23 #[.val (.int p1), .val (.int p2), .val (.int p3), .val (.int p4), .val (.int p5), .val (.int p6), .val (.int (0 : Int32)), .val (.int (2 : Int32)), .unset, .unset, .unset, .unset, .unset] [(.int (3 : Int32))])) rfl (hb hby at_23) rfl (by decide) (cap := 3) (by decide) (by decide) (by decide) (by decide)
      obtain ⟨b345, g345⟩ : ∃ z, z = h0.size := ⟨_, rfl⟩
      rw [← g345] at A345 st345
      have low345 : n0 ≤ b345 := Nat.le_trans Z0 (Nat.le_of_eq g345.symm)
      have sz345 : h0.size ≤ b345 := Nat.le_trans K0.1 (Nat.le_of_eq g345.symm)
      have Z345 : n0 ≤ h345.size := Nat.le_trans Z0 E345.1
      have K345 := K0.ext E345
      have V345 : Arv Z h345 b345 k345 .int (3 : Int32) [(.int (0 : Int32)), (.int (0 : Int32)), (.int (0 : Int32))] (.int (0 : Int32)) := (Arv.new A345 (by decide)).pad (pad_rep [] (.int (0 : Int32)) 3)
      refine own_go st345 ?_
      refine own_go (A := T345.setTop (mkF m 25 #[.val (.int p1), .val (.int p2), .val (.int p3), .val (.int p4), .val (.int p5), .val (.int p6), .val (.int (0 : Int32)), .val (.int (2 : Int32)), .unset, .unset, .unset, .unset, .unset] [(.ref b345)])) (B := T345.setTop (mkF m 28 #[.val (.int p1), .val (.int p2), .val (.int p3), .val (.int p4), .val (.int p5), .val (.int p6), .val (.int (0 : Int32)), .val (.int (2 : Int32)), .val (.ref b345), .unset, .unset, .unset, .unset] [(.int (3 : Int32))])) (fun t k => ?_) ?_
      · show Steps p.tables e below (T345.setTop (mkF m 25 #[.val (.int p1), .val (.int p2), .val (.int p3), .val (.int p4), .val (.int p5), .val (.int p6), .val (.int (0 : Int32)), .val (.int (2 : Int32)), .unset, .unset, .unset, .unset, .unset] [(.ref b345)])) _
        refine XS.astore X345.here hx rfl (hb hby at_25) rfl rfl (l' := #[.val (.int p1), .val (.int p2), .val (.int p3), .val (.int p4), .val (.int p5), .val (.int p6), .val (.int (0 : Int32)), .val (.int (2 : Int32)), .val (.ref b345), .unset, .unset, .unset, .unset]) rfl ?_
        show Steps p.tables e below (T345.setTop (mkF m 27 #[.val (.int p1), .val (.int p2), .val (.int p3), .val (.int p4), .val (.int p5), .val (.int p6), .val (.int (0 : Int32)), .val (.int (2 : Int32)), .val (.ref b345), .unset, .unset, .unset, .unset] [])) _
        refine XS.iconst X345.here hx rfl (hb hby at_27) ?_
        exact k
      obtain ⟨T346, h346, k346, X346, e346, E346, A346, st346⟩ := newP X345 hx hZ (hw _ (List.mem_of_getElem? (i := 0) rfl)) e345 (g := (mkF m 28 #[.val (.int p1), .val (.int p2), .val (.int p3), .val (.int p4), .val (.int p5), .val (.int p6), .val (.int (0 : Int32)), .val (.int (2 : Int32)), .val (.ref b345), .unset, .unset, .unset, .unset] [(.int (3 : Int32))])) rfl (hb hby at_28) rfl (by decide) (cap := 3) (by decide) (by decide) (by decide) (by decide)
      obtain ⟨b346, g346⟩ : ∃ z, z = h345.size := ⟨_, rfl⟩
      rw [← g346] at A346 st346
      have ne346_b345 : b345 ≠ b346 := Nat.ne_of_lt (Nat.lt_of_lt_of_le V345.lt (Nat.le_of_eq g346.symm))
      have low346 : n0 ≤ b346 := Nat.le_trans Z345 (Nat.le_of_eq g346.symm)
      have sz346 : h0.size ≤ b346 := Nat.le_trans K345.1 (Nat.le_of_eq g346.symm)
      have Q347 : Arv Z h346 b345 k345 .int (3 : Int32) [(.int (0 : Int32)), (.int (0 : Int32)), (.int (0 : Int32))] (.int (0 : Int32)) := V345.ext E346
      have Z346 : n0 ≤ h346.size := Nat.le_trans Z345 E346.1
      have K346 := K345.ext E346
      have V346 : Arv Z h346 b346 k346 .int (3 : Int32) [(.int (0 : Int32)), (.int (0 : Int32)), (.int (0 : Int32))] (.int (0 : Int32)) := (Arv.new A346 (by decide)).pad (pad_rep [] (.int (0 : Int32)) 3)
      refine own_go st346 ?_
      refine own_go (A := T346.setTop (mkF m 30 #[.val (.int p1), .val (.int p2), .val (.int p3), .val (.int p4), .val (.int p5), .val (.int p6), .val (.int (0 : Int32)), .val (.int (2 : Int32)), .val (.ref b345), .unset, .unset, .unset, .unset] [(.ref b346)])) (B := T346.setTop (mkF m 32 #[.val (.int p1), .val (.int p2), .val (.int p3), .val (.int p4), .val (.int p5), .val (.int p6), .val (.int (0 : Int32)), .val (.int (2 : Int32)), .val (.ref b345), .val (.ref b346), .unset, .unset, .unset] [])) (fun t k => ?_) ?_
      · show Steps p.tables e below (T346.setTop (mkF m 30 #[.val (.int p1), .val (.int p2), .val (.int p3), .val (.int p4), .val (.int p5), .val (.int p6), .val (.int (0 : Int32)), .val (.int (2 : Int32)), .val (.ref b345), .unset, .unset, .unset, .unset] [(.ref b346)])) _
        refine XS.astore X346.here hx rfl (hb hby at_30) rfl rfl (l' := #[.val (.int p1), .val (.int p2), .val (.int p3), .val (.int p4), .val (.int p5), .val (.int p6), .val (.int (0 : Int32)), .val (.int (2 : Int32)), .val (.ref b345), .val (.ref b346), .unset, .unset, .unset]) rfl ?_
        exact k
      obtain ⟨T348, h348, X348, e348, E348, A348, D348, -, st348⟩ := newO X346 hx hZ hown (hw _ (List.mem_of_getElem? (i := 1) rfl)) (hw _ (List.mem_of_getElem? (i := 2) rfl)) (hw _ (List.mem_of_getElem? (i := 3) rfl)) e346 (g := (mkF m 32 #[.val (.int p1), .val (.int p2), .val (.int p3), .val (.int p4), .val (.int p5), .val (.int p6), .val (.int (0 : Int32)), .val (.int (2 : Int32)), .val (.ref b345), .val (.ref b346), .unset, .unset, .unset] [])) rfl (hb hby at_32) (by decide) (by decide)
      obtain ⟨b348, g348⟩ : ∃ z, z = h346.size := ⟨_, rfl⟩
      rw [← g348] at A348 D348 st348
      have ne348_b345 : b345 ≠ b348 := Nat.ne_of_lt (Nat.lt_of_lt_of_le Q347.lt (Nat.le_of_eq g348.symm))
      have ne348_b346 : b346 ≠ b348 := Nat.ne_of_lt (Nat.lt_of_lt_of_le V346.lt (Nat.le_of_eq g348.symm))
      have low348 : n0 ≤ b348 := Nat.le_trans Z346 (Nat.le_of_eq g348.symm)
      have sz348 : h0.size ≤ b348 := Nat.le_trans K346.1 (Nat.le_of_eq g348.symm)
      have Q349 : Arv Z h348 b345 k345 .int (3 : Int32) [(.int (0 : Int32)), (.int (0 : Int32)), (.int (0 : Int32))] (.int (0 : Int32)) := Q347.ext E348
      have Q350 : Arv Z h348 b346 k346 .int (3 : Int32) [(.int (0 : Int32)), (.int (0 : Int32)), (.int (0 : Int32))] (.int (0 : Int32)) := V346.ext E348
      have Z348 : n0 ≤ h348.size := Nat.le_trans Z346 E348.1
      have K348 := K346.ext E348
      have D348_from_Arcs : Fld Z h348 b348 "com/example/axiomwright/axiomwright/Arcs" "from" "[I" .null := D348 (Or.inl (hw _ (List.mem_of_getElem? (i := 11) rfl))) (ty := (.array .int)) (by decide)
      have D348_to_Arcs : Fld Z h348 b348 "com/example/axiomwright/axiomwright/Arcs" "to" "[I" .null := D348 (Or.inl (hw _ (List.mem_of_getElem? (i := 13) rfl))) (ty := (.array .int)) (by decide)
      have D348_size_Arcs : Fld Z h348 b348 "com/example/axiomwright/axiomwright/Arcs" "size" "I" (.int (0 : Int32)) := D348 (Or.inl (hw _ (List.mem_of_getElem? (i := 20) rfl))) (ty := .int) (by decide)
      refine own_go st348 ?_
      refine own_go (A := T348.setTop (mkF m 35 #[.val (.int p1), .val (.int p2), .val (.int p3), .val (.int p4), .val (.int p5), .val (.int p6), .val (.int (0 : Int32)), .val (.int (2 : Int32)), .val (.ref b345), .val (.ref b346), .unset, .unset, .unset] [(.ref b348)])) (B := T348.setTop (mkF m 36 #[.val (.int p1), .val (.int p2), .val (.int p3), .val (.int p4), .val (.int p5), .val (.int p6), .val (.int (0 : Int32)), .val (.int (2 : Int32)), .val (.ref b345), .val (.ref b346), .unset, .unset, .unset] [(.ref b348), (.ref b348)])) (fun t k => ?_) ?_
      · show Steps p.tables e below (T348.setTop (mkF m 35 #[.val (.int p1), .val (.int p2), .val (.int p3), .val (.int p4), .val (.int p5), .val (.int p6), .val (.int (0 : Int32)), .val (.int (2 : Int32)), .val (.ref b345), .val (.ref b346), .unset, .unset, .unset] [(.ref b348)])) _
        refine XS.dup X348.here hx rfl (hb hby at_35) rfl rfl ?_
        exact k
      obtain ⟨_, _, ⟨T351, L351, k351, n351⟩, -, X351, ⟨Lc351, hQ351, l351, y351, z351⟩, st351⟩ := X348.specialBack hx (y := (⟨"com/example/axiomwright/axiomwright/Arcs", "<init>", "()V"⟩ : MethodName)) rfl hown (mvT hZ (hw _ (List.mem_of_getElem? (i := 4) rfl))) (mvT hZ (hw _ (List.mem_of_getElem? (i := 5) rfl))) (mvT hZ (hw _ (List.mem_of_getElem? (i := 6) rfl))) (by decide) (backOf (W := 1) (rm1 l Z a0 hw [] b348 h348 n0 Z348 A348 D348_from_Arcs D348_to_Arcs D348_size_Arcs low348) hZ (hw _ (List.mem_of_getElem? (i := 6) rfl)) (hw _ (List.mem_of_getElem? (i := 3) rfl)) (by decide) (by decide)) (g := (mkF m 36 #[.val (.int p1), .val (.int p2), .val (.int p3), .val (.int p4), .val (.int p5), .val (.int p6), .val (.int (0 : Int32)), .val (.int (2 : Int32)), .val (.ref b345), .val (.ref b346), .unset, .unset, .unset] [(.ref b348), (.ref b348)])) rfl (by rw [hml]; rfl) (Steps.refl _) (a := b348) (argsL := []) (rest := [(.ref b348)]) (lenOf pd_2 rfl) rfl (by show 2 * 0 + _ ≤ _; exact Nat.le_of_eq rfl) (hb hby at_36) (fun _ _ => ⟨rfl, e348, (by decide : 3 + 2 ≤ _), (by decide : 9 + 32 ≤ _)⟩)
      dsimp only [Pt.U, Pt.locs, Pt.cells, Pt.slots] at X351 l351 y351 z351 st351 hQ351
      subst l351 y351 z351
      obtain ⟨b1_351, b2_351, k1_351, k2_351, rfl, Nq351, Kq351, sq_b1_351, sq_b2_351, pq351_0, U351_0, U351_1, U351_2, U351_3, U351_4⟩ := hQ351
      have ne_b345_b1_351 : b345 ≠ b1_351 := Nat.ne_of_lt (Nat.lt_of_lt_of_le Q349.lt sq_b1_351)
      have ne_b346_b1_351 : b346 ≠ b1_351 := Nat.ne_of_lt (Nat.lt_of_lt_of_le Q350.lt sq_b1_351)
      have ne_b348_b1_351 : b348 ≠ b1_351 := Nat.ne_of_lt (Nat.lt_of_lt_of_le A348.lt sq_b1_351)
      have low_b1_351 : n0 ≤ b1_351 := Nat.le_trans Z348 sq_b1_351
      have sz_b1_351 : h0.size ≤ b1_351 := Nat.le_trans K348.1 sq_b1_351
      have ne_b345_b2_351 : b345 ≠ b2_351 := Nat.ne_of_lt (Nat.lt_of_lt_of_le Q349.lt sq_b2_351)
      have ne_b346_b2_351 : b346 ≠ b2_351 := Nat.ne_of_lt (Nat.lt_of_lt_of_le Q350.lt sq_b2_351)
      have ne_b348_b2_351 : b348 ≠ b2_351 := Nat.ne_of_lt (Nat.lt_of_lt_of_le A348.lt sq_b2_351)
      have low_b2_351 : n0 ≤ b2_351 := Nat.le_trans Z348 sq_b2_351
      have sz_b2_351 : h0.size ≤ b2_351 := Nat.le_trans K348.1 sq_b2_351
      have Q352 : Arv Z T351.heap b345 k345 .int (3 : Int32) [(.int (0 : Int32)), (.int (0 : Int32)), (.int (0 : Int32))] (.int (0 : Int32)) := Q349.keep Kq351 (ninS ne348_b345 nin0)
      have Q353 : Arv Z T351.heap b346 k346 .int (3 : Int32) [(.int (0 : Int32)), (.int (0 : Int32)), (.int (0 : Int32))] (.int (0 : Int32)) := Q350.keep Kq351 (ninS ne348_b346 nin0)
      have Q354 : Exa Z T351.heap b348 "com/example/axiomwright/axiomwright/Arcs" := A348.keep Kq351
      have Z351 : n0 ≤ T351.heap.size := Nat.le_trans Z348 Kq351.1
      have K351 : Keep h0 T351.heap [] := K348.trans Kq351 (allS (Or.inr sz348) all0)
      have N351 := Fr.app N0 Nq351
      refine own_go (A := _) (B := T351.setTop (mkF m 39 #[.val (.int p1), .val (.int p2), .val (.int p3), .val (.int p4), .val (.int p5), .val (.int p6), .val (.int (0 : Int32)), .val (.int (2 : Int32)), .val (.ref b345), .val (.ref b346), .unset, .unset, .unset] [(.ref b348)])) (fun t k => st351.trans k) ?_
      refine own_go (A := T351.setTop (mkF m 39 #[.val (.int p1), .val (.int p2), .val (.int p3), .val (.int p4), .val (.int p5), .val (.int p6), .val (.int (0 : Int32)), .val (.int (2 : Int32)), .val (.ref b345), .val (.ref b346), .unset, .unset, .unset] [(.ref b348)])) (B := T351.setTop (mkF m 41 #[.val (.int p1), .val (.int p2), .val (.int p3), .val (.int p4), .val (.int p5), .val (.int p6), .val (.int (0 : Int32)), .val (.int (2 : Int32)), .val (.ref b345), .val (.ref b346), .val (.ref b348), .unset, .unset] [])) (fun t k => ?_) ?_
      · show Steps p.tables e below (T351.setTop (mkF m 39 #[.val (.int p1), .val (.int p2), .val (.int p3), .val (.int p4), .val (.int p5), .val (.int p6), .val (.int (0 : Int32)), .val (.int (2 : Int32)), .val (.ref b345), .val (.ref b346), .unset, .unset, .unset] [(.ref b348)])) _
        refine XS.astore X351.here hx rfl (hb hby at_39) rfl rfl (l' := #[.val (.int p1), .val (.int p2), .val (.int p3), .val (.int p4), .val (.int p5), .val (.int p6), .val (.int (0 : Int32)), .val (.int (2 : Int32)), .val (.ref b345), .val (.ref b346), .val (.ref b348), .unset, .unset]) rfl ?_
        exact k
      obtain ⟨T355, h355, X355, e355, E355, A355, D355, -, st355⟩ := newO X351 hx hZ hown (hw _ (List.mem_of_getElem? (i := 1) rfl)) (hw _ (List.mem_of_getElem? (i := 2) rfl)) (hw _ (List.mem_of_getElem? (i := 3) rfl)) rfl (g := (mkF m 41 #[.val (.int p1), .val (.int p2), .val (.int p3), .val (.int p4), .val (.int p5), .val (.int p6), .val (.int (0 : Int32)), .val (.int (2 : Int32)), .val (.ref b345), .val (.ref b346), .val (.ref b348), .unset, .unset] [])) rfl (hb hby at_41) (by decide) (by decide)
      obtain ⟨b355, g355⟩ : ∃ z, z = T351.heap.size := ⟨_, rfl⟩
      rw [← g355] at A355 D355 st355
      have ne355_b1_351 : b1_351 ≠ b355 := Nat.ne_of_lt (Nat.lt_of_lt_of_le U351_3.lt (Nat.le_of_eq g355.symm))
      have ne355_b2_351 : b2_351 ≠ b355 := Nat.ne_of_lt (Nat.lt_of_lt_of_le U351_4.lt (Nat.le_of_eq g355.symm))
      have ne355_b345 : b345 ≠ b355 := Nat.ne_of_lt (Nat.lt_of_lt_of_le Q352.lt (Nat.le_of_eq g355.symm))
      have ne355_b346 : b346 ≠ b355 := Nat.ne_of_lt (Nat.lt_of_lt_of_le Q353.lt (Nat.le_of_eq g355.symm))
      have ne355_b348 : b348 ≠ b355 := Nat.ne_of_lt (Nat.lt_of_lt_of_le Q354.lt (Nat.le_of_eq g355.symm))
      have low355 : n0 ≤ b355 := Nat.le_trans Z351 (Nat.le_of_eq g355.symm)
      have sz355 : h0.size ≤ b355 := Nat.le_trans K351.1 (Nat.le_of_eq g355.symm)
      have Q356 : Arv Z h355 b345 k345 .int (3 : Int32) [(.int (0 : Int32)), (.int (0 : Int32)), (.int (0 : Int32))] (.int (0 : Int32)) := Q352.ext E355
      have Q357 : Arv Z h355 b346 k346 .int (3 : Int32) [(.int (0 : Int32)), (.int (0 : Int32)), (.int (0 : Int32))] (.int (0 : Int32)) := Q353.ext E355
      have Q358 : Exa Z h355 b348 "com/example/axiomwright/axiomwright/Arcs" := Q354.ext E355
      have Q359 : Fld Z h355 b348 "com/example/axiomwright/axiomwright/Arcs" "from" "[I" (.ref b1_351) := U351_0.ext E355
      have Q360 : Fld Z h355 b348 "com/example/axiomwright/axiomwright/Arcs" "to" "[I" (.ref b2_351) := U351_1.ext E355
      have Q361 : Fld Z h355 b348 "com/example/axiomwright/axiomwright/Arcs" "size" "I" (.int (0 : Int32)) := U351_2.ext E355
      have Q362 : Arv Z h355 b1_351 k1_351 .int (16 : Int32) [(.int (0 : Int32)), (.int (0 : Int32)), (.int (0 : Int32)), (.int (0 : Int32)), (.int (0 : Int32)), (.int (0 : Int32)), (.int (0 : Int32)), (.int (0 : Int32)), (.int (0 : Int32)), (.int (0 : Int32)), (.int (0 : Int32)), (.int (0 : Int32)), (.int (0 : Int32)), (.int (0 : Int32)), (.int (0 : Int32)), (.int (0 : Int32))] (.int (0 : Int32)) := U351_3.ext E355
      have Q363 : Arv Z h355 b2_351 k2_351 .int (16 : Int32) [(.int (0 : Int32)), (.int (0 : Int32)), (.int (0 : Int32)), (.int (0 : Int32)), (.int (0 : Int32)), (.int (0 : Int32)), (.int (0 : Int32)), (.int (0 : Int32)), (.int (0 : Int32)), (.int (0 : Int32)), (.int (0 : Int32)), (.int (0 : Int32)), (.int (0 : Int32)), (.int (0 : Int32)), (.int (0 : Int32)), (.int (0 : Int32))] (.int (0 : Int32)) := U351_4.ext E355
      have Z355 : n0 ≤ h355.size := Nat.le_trans Z351 E355.1
      have K355 := K351.ext E355
      have D355_from_Arcs : Fld Z h355 b355 "com/example/axiomwright/axiomwright/Arcs" "from" "[I" .null := D355 (Or.inl (hw _ (List.mem_of_getElem? (i := 11) rfl))) (ty := (.array .int)) (by decide)
      have D355_to_Arcs : Fld Z h355 b355 "com/example/axiomwright/axiomwright/Arcs" "to" "[I" .null := D355 (Or.inl (hw _ (List.mem_of_getElem? (i := 13) rfl))) (ty := (.array .int)) (by decide)
      have D355_size_Arcs : Fld Z h355 b355 "com/example/axiomwright/axiomwright/Arcs" "size" "I" (.int (0 : Int32)) := D355 (Or.inl (hw _ (List.mem_of_getElem? (i := 20) rfl))) (ty := .int) (by decide)
      refine own_go st355 ?_
      refine own_go (A := T355.setTop (mkF m 44 #[.val (.int p1), .val (.int p2), .val (.int p3), .val (.int p4), .val (.int p5), .val (.int p6), .val (.int (0 : Int32)), .val (.int (2 : Int32)), .val (.ref b345), .val (.ref b346), .val (.ref b348), .unset, .unset] [(.ref b355)])) (B := T355.setTop (mkF m 45 #[.val (.int p1), .val (.int p2), .val (.int p3), .val (.int p4), .val (.int p5), .val (.int p6), .val (.int (0 : Int32)), .val (.int (2 : Int32)), .val (.ref b345), .val (.ref b346), .val (.ref b348), .unset, .unset] [(.ref b355), (.ref b355)])) (fun t k => ?_) ?_
      · show Steps p.tables e below (T355.setTop (mkF m 44 #[.val (.int p1), .val (.int p2), .val (.int p3), .val (.int p4), .val (.int p5), .val (.int p6), .val (.int (0 : Int32)), .val (.int (2 : Int32)), .val (.ref b345), .val (.ref b346), .val (.ref b348), .unset, .unset] [(.ref b355)])) _
        refine XS.dup X355.here hx rfl (hb hby at_44) rfl rfl ?_
        exact k
      obtain ⟨_, _, ⟨T364, L364, k364, n364⟩, -, X364, ⟨Lc364, hQ364, l364, y364, z364⟩, st364⟩ := X355.specialBack hx (y := (⟨"com/example/axiomwright/axiomwright/Arcs", "<init>", "()V"⟩ : MethodName)) rfl hown (mvT hZ (hw _ (List.mem_of_getElem? (i := 4) rfl))) (mvT hZ (hw _ (List.mem_of_getElem? (i := 5) rfl))) (mvT hZ (hw _ (List.mem_of_getElem? (i := 6) rfl))) (by decide) (backOf (W := 1) (rm1 l Z a0 hw [] b355 h355 n0 Z355 A355 D355_from_Arcs D355_to_Arcs D355_size_Arcs low355) hZ (hw _ (List.mem_of_getElem? (i := 6) rfl)) (hw _ (List.mem_of_getElem? (i := 3) rfl)) (by decide) (by decide)) (g := (mkF m 45 #[.val (.int p1), .val (.int p2), .val (.int p3), .val (.int p4), .val (.int p5), .val (.int p6), .val (.int (0 : Int32)), .val (.int (2 : Int32)), .val (.ref b345), .val (.ref b346), .val (.ref b348), .unset, .unset] [(.ref b355), (.ref b355)])) rfl (by rw [hml]; rfl) (Steps.refl _) (a := b355) (argsL := []) (rest := [(.ref b355)]) (lenOf pd_2 rfl) rfl (by show 2 * 0 + _ ≤ _; exact Nat.le_of_eq rfl) (hb hby at_45) (fun _ _ => ⟨rfl, e355, (by decide : 6 + 2 ≤ _), (by decide : 44 + 32 ≤ _)⟩)
      dsimp only [Pt.U, Pt.locs, Pt.cells, Pt.slots] at X364 l364 y364 z364 st364 hQ364
      subst l364 y364 z364
      obtain ⟨b1_364, b2_364, k1_364, k2_364, rfl, Nq364, Kq364, sq_b1_364, sq_b2_364, pq364_0, U364_0, U364_1, U364_2, U364_3, U364_4⟩ := hQ364
      have ne_b1_351_b1_364 : b1_351 ≠ b1_364 := Nat.ne_of_lt (Nat.lt_of_lt_of_le Q362.lt sq_b1_364)
      have ne_b2_351_b1_364 : b2_351 ≠ b1_364 := Nat.ne_of_lt (Nat.lt_of_lt_of_le Q363.lt sq_b1_364)
      have ne_b345_b1_364 : b345 ≠ b1_364 := Nat.ne_of_lt (Nat.lt_of_lt_of_le Q356.lt sq_b1_364)
      have ne_b346_b1_364 : b346 ≠ b1_364 := Nat.ne_of_lt (Nat.lt_of_lt_of_le Q357.lt sq_b1_364)
      have ne_b348_b1_364 : b348 ≠ b1_364 := Nat.ne_of_lt (Nat.lt_of_lt_of_le Q358.lt sq_b1_364)
      have ne_b355_b1_364 : b355 ≠ b1_364 := Nat.ne_of_lt (Nat.lt_of_lt_of_le A355.lt sq_b1_364)
      have low_b1_364 : n0 ≤ b1_364 := Nat.le_trans Z355 sq_b1_364
      have sz_b1_364 : h0.size ≤ b1_364 := Nat.le_trans K355.1 sq_b1_364
      have ne_b1_351_b2_364 : b1_351 ≠ b2_364 := Nat.ne_of_lt (Nat.lt_of_lt_of_le Q362.lt sq_b2_364)
      have ne_b2_351_b2_364 : b2_351 ≠ b2_364 := Nat.ne_of_lt (Nat.lt_of_lt_of_le Q363.lt sq_b2_364)
      have ne_b345_b2_364 : b345 ≠ b2_364 := Nat.ne_of_lt (Nat.lt_of_lt_of_le Q356.lt sq_b2_364)
      have ne_b346_b2_364 : b346 ≠ b2_364 := Nat.ne_of_lt (Nat.lt_of_lt_of_le Q357.lt sq_b2_364)
      have ne_b348_b2_364 : b348 ≠ b2_364 := Nat.ne_of_lt (Nat.lt_of_lt_of_le Q358.lt sq_b2_364)
      have ne_b355_b2_364 : b355 ≠ b2_364 := Nat.ne_of_lt (Nat.lt_of_lt_of_le A355.lt sq_b2_364)
      have low_b2_364 : n0 ≤ b2_364 := Nat.le_trans Z355 sq_b2_364
      have sz_b2_364 : h0.size ≤ b2_364 := Nat.le_trans K355.1 sq_b2_364
      have Q365 : Arv Z T364.heap b345 k345 .int (3 : Int32) [(.int (0 : Int32)), (.int (0 : Int32)), (.int (0 : Int32))] (.int (0 : Int32)) := Q356.keep Kq364 (ninS ne355_b345 nin0)
      have Q366 : Arv Z T364.heap b346 k346 .int (3 : Int32) [(.int (0 : Int32)), (.int (0 : Int32)), (.int (0 : Int32))] (.int (0 : Int32)) := Q357.keep Kq364 (ninS ne355_b346 nin0)
      have Q367 : Exa Z T364.heap b348 "com/example/axiomwright/axiomwright/Arcs" := Q358.keep Kq364
      have Q368 : Fld Z T364.heap b348 "com/example/axiomwright/axiomwright/Arcs" "from" "[I" (.ref b1_351) := Q359.keep Kq364 (ninS ne355_b348 nin0)
      have Q369 : Fld Z T364.heap b348 "com/example/axiomwright/axiomwright/Arcs" "to" "[I" (.ref b2_351) := Q360.keep Kq364 (ninS ne355_b348 nin0)
      have Q370 : Fld Z T364.heap b348 "com/example/axiomwright/axiomwright/Arcs" "size" "I" (.int (0 : Int32)) := Q361.keep Kq364 (ninS ne355_b348 nin0)
      have Q371 : Arv Z T364.heap b1_351 k1_351 .int (16 : Int32) [(.int (0 : Int32)), (.int (0 : Int32)), (.int (0 : Int32)), (.int (0 : Int32)), (.int (0 : Int32)), (.int (0 : Int32)), (.int (0 : Int32)), (.int (0 : Int32)), (.int (0 : Int32)), (.int (0 : Int32)), (.int (0 : Int32)), (.int (0 : Int32)), (.int (0 : Int32)), (.int (0 : Int32)), (.int (0 : Int32)), (.int (0 : Int32))] (.int (0 : Int32)) := Q362.keep Kq364 (ninS ne355_b1_351 nin0)
      have Q372 : Arv Z T364.heap b2_351 k2_351 .int (16 : Int32) [(.int (0 : Int32)), (.int (0 : Int32)), (.int (0 : Int32)), (.int (0 : Int32)), (.int (0 : Int32)), (.int (0 : Int32)), (.int (0 : Int32)), (.int (0 : Int32)), (.int (0 : Int32)), (.int (0 : Int32)), (.int (0 : Int32)), (.int (0 : Int32)), (.int (0 : Int32)), (.int (0 : Int32)), (.int (0 : Int32)), (.int (0 : Int32))] (.int (0 : Int32)) := Q363.keep Kq364 (ninS ne355_b2_351 nin0)
      have Q373 : Exa Z T364.heap b355 "com/example/axiomwright/axiomwright/Arcs" := A355.keep Kq364
      have Z364 : n0 ≤ T364.heap.size := Nat.le_trans Z355 Kq364.1
      have K364 : Keep h0 T364.heap [] := K355.trans Kq364 (allS (Or.inr sz355) all0)
      have N364 := Fr.app N351 Nq364
      refine own_go (A := _) (B := T364.setTop (mkF m 48 #[.val (.int p1), .val (.int p2), .val (.int p3), .val (.int p4), .val (.int p5), .val (.int p6), .val (.int (0 : Int32)), .val (.int (2 : Int32)), .val (.ref b345), .val (.ref b346), .val (.ref b348), .unset, .unset] [(.ref b355)])) (fun t k => st364.trans k) ?_
      refine own_go (A := T364.setTop (mkF m 48 #[.val (.int p1), .val (.int p2), .val (.int p3), .val (.int p4), .val (.int p5), .val (.int p6), .val (.int (0 : Int32)), .val (.int (2 : Int32)), .val (.ref b345), .val (.ref b346), .val (.ref b348), .unset, .unset] [(.ref b355)])) (B := T364.setTop (mkF m 91 #[.val (.int p1), .val (.int p2), .val (.int p3), .val (.int p4), .val (.int p5), .val (.int p6), .val (.int (0 : Int32)), .val (.int (2 : Int32)), .val (.ref b345), .val (.ref b346), .val (.ref b348), .val (.ref b355), .val (.int (0 : Int32))] [(.int p5), (.int p4), (.ref b355)])) (fun t k => ?_) ?_
      · show Steps p.tables e below (T364.setTop (mkF m 48 #[.val (.int p1), .val (.int p2), .val (.int p3), .val (.int p4), .val (.int p5), .val (.int p6), .val (.int (0 : Int32)), .val (.int (2 : Int32)), .val (.ref b345), .val (.ref b346), .val (.ref b348), .unset, .unset] [(.ref b355)])) _
        refine XS.astore X364.here hx rfl (hb hby at_48) rfl rfl (l' := #[.val (.int p1), .val (.int p2), .val (.int p3), .val (.int p4), .val (.int p5), .val (.int p6), .val (.int (0 : Int32)), .val (.int (2 : Int32)), .val (.ref b345), .val (.ref b346), .val (.ref b348), .val (.ref b355), .unset]) rfl ?_
        show Steps p.tables e below (T364.setTop (mkF m 50 #[.val (.int p1), .val (.int p2), .val (.int p3), .val (.int p4), .val (.int p5), .val (.int p6), .val (.int (0 : Int32)), .val (.int (2 : Int32)), .val (.ref b345), .val (.ref b346), .val (.ref b348), .val (.ref b355), .unset] [])) _
        refine XS.iconst X364.here hx rfl (hb hby at_50) ?_
        show Steps p.tables e below (T364.setTop (mkF m 51 #[.val (.int p1), .val (.int p2), .val (.int p3), .val (.int p4), .val (.int p5), .val (.int p6), .val (.int (0 : Int32)), .val (.int (2 : Int32)), .val (.ref b345), .val (.ref b346), .val (.ref b348), .val (.ref b355), .unset] [(.int (0 : Int32))])) _
        refine XS.istore X364.here hx rfl (hb hby at_51) rfl (l' := #[.val (.int p1), .val (.int p2), .val (.int p3), .val (.int p4), .val (.int p5), .val (.int p6), .val (.int (0 : Int32)), .val (.int (2 : Int32)), .val (.ref b345), .val (.ref b346), .val (.ref b348), .val (.ref b355), .val (.int (0 : Int32))]) rfl ?_
        show Steps p.tables e below (T364.setTop (mkF m 53 #[.val (.int p1), .val (.int p2), .val (.int p3), .val (.int p4), .val (.int p5), .val (.int p6), .val (.int (0 : Int32)), .val (.int (2 : Int32)), .val (.ref b345), .val (.ref b346), .val (.ref b348), .val (.ref b355), .val (.int (0 : Int32))] [])) _
        refine XS.iload X364.here hx rfl (hb hby at_53) rfl ?_
        show Steps p.tables e below (T364.setTop (mkF m 55 #[.val (.int p1), .val (.int p2), .val (.int p3), .val (.int p4), .val (.int p5), .val (.int p6), .val (.int (0 : Int32)), .val (.int (2 : Int32)), .val (.ref b345), .val (.ref b346), .val (.ref b348), .val (.ref b355), .val (.int (0 : Int32))] [(.int (0 : Int32))])) _
        refine XS.ifYes X364.here hx rfl (pc0 := 55) (pc' := 80) rfl (hb hby at_55) rfl ((if0 _ _).trans (teq (rfl : (0 : Int32) = (0 : Int32))).1) (by decide) (by decide) ?_
        show Steps p.tables e below (T364.setTop (mkF m 80 #[.val (.int p1), .val (.int p2), .val (.int p3), .val (.int p4), .val (.int p5), .val (.int p6), .val (.int (0 : Int32)), .val (.int (2 : Int32)), .val (.ref b345), .val (.ref b346), .val (.ref b348), .val (.ref b355), .val (.int (0 : Int32))] [])) _
        refine XS.iload X364.here hx rfl (hb hby at_80) rfl ?_
        show Steps p.tables e below (T364.setTop (mkF m 82 #[.val (.int p1), .val (.int p2), .val (.int p3), .val (.int p4), .val (.int p5), .val (.int p6), .val (.int (0 : Int32)), .val (.int (2 : Int32)), .val (.ref b345), .val (.ref b346), .val (.ref b348), .val (.ref b355), .val (.int (0 : Int32))] [(.int (2 : Int32))])) _
        refine XS.iconst X364.here hx rfl (hb hby at_82) ?_
        show Steps p.tables e below (T364.setTop (mkF m 83 #[.val (.int p1), .val (.int p2), .val (.int p3), .val (.int p4), .val (.int p5), .val (.int p6), .val (.int (0 : Int32)), .val (.int (2 : Int32)), .val (.ref b345), .val (.ref b346), .val (.ref b348), .val (.ref b355), .val (.int (0 : Int32))] [(.int (1 : Int32)), (.int (2 : Int32))])) _
        refine XS.icmpNo X364.here hx rfl (hb hby at_83) rfl (flt (by decide : ¬ ((2 : Int32) < (1 : Int32)))).1 ?_
        show Steps p.tables e below (T364.setTop (mkF m 86 #[.val (.int p1), .val (.int p2), .val (.int p3), .val (.int p4), .val (.int p5), .val (.int p6), .val (.int (0 : Int32)), .val (.int (2 : Int32)), .val (.ref b345), .val (.ref b346), .val (.ref b348), .val (.ref b355), .val (.int (0 : Int32))] [])) _
        refine XS.aload X364.here hx rfl (hb hby at_86) rfl rfl ?_
        show Steps p.tables e below (T364.setTop (mkF m 88 #[.val (.int p1), .val (.int p2), .val (.int p3), .val (.int p4), .val (.int p5), .val (.int p6), .val (.int (0 : Int32)), .val (.int (2 : Int32)), .val (.ref b345), .val (.ref b346), .val (.ref b348), .val (.ref b355), .val (.int (0 : Int32))] [(.ref b355)])) _
        refine XS.iloadN X364.here hx rfl (hb hby at_88) rfl ?_
        show Steps p.tables e below (T364.setTop (mkF m 89 #[.val (.int p1), .val (.int p2), .val (.int p3), .val (.int p4), .val (.int p5), .val (.int p6), .val (.int (0 : Int32)), .val (.int (2 : Int32)), .val (.ref b345), .val (.ref b346), .val (.ref b348), .val (.ref b355), .val (.int (0 : Int32))] [(.int p4), (.ref b355)])) _
        refine XS.iload X364.here hx rfl (hb hby at_89) rfl ?_
        exact k
      obtain ⟨cq376, kq376, q376a, q376b, q376c⟩ := isOf hZ rfl Q373
      obtain ⟨_, _, ⟨T376, L376, k376, n376⟩, -, X376, ⟨Lc376, hQ376, l376, y376, z376⟩, st376⟩ := X364.virtualBack hx (y := (⟨"com/example/axiomwright/axiomwright/Arcs", "add", "(II)V"⟩ : MethodName)) (z := (⟨"com/example/axiomwright/axiomwright/Arcs", "add", "(II)V"⟩ : MethodName)) hown (mvT hZ (hw _ (List.mem_of_getElem? (i := 30) rfl))) (mvT hZ (hw _ (List.mem_of_getElem? (i := 31) rfl))) (notFace_of_selects (args := #[]) (mvT hZ (hw _ (List.mem_of_getElem? (i := 33) rfl)))) (mvT hZ (hw _ (List.mem_of_getElem? (i := 33) rfl))) (mvT hZ (hw _ (List.mem_of_getElem? (i := 32) rfl))) (by decide) (backOf (W := 0) (rm6 l Z a0 hw [] b355 p4 p5 (0 : Int32) b1_364 b2_364 k1_364 k2_364 [(.int (0 : Int32)), (.int (0 : Int32)), (.int (0 : Int32)), (.int (0 : Int32)), (.int (0 : Int32)), (.int (0 : Int32)), (.int (0 : Int32)), (.int (0 : Int32)), (.int (0 : Int32)), (.int (0 : Int32)), (.int (0 : Int32)), (.int (0 : Int32)), (.int (0 : Int32)), (.int (0 : Int32)), (.int (0 : Int32)), (.int (0 : Int32))] [(.int (0 : Int32)), (.int (0 : Int32)), (.int (0 : Int32)), (.int (0 : Int32)), (.int (0 : Int32)), (.int (0 : Int32)), (.int (0 : Int32)), (.int (0 : Int32)), (.int (0 : Int32)), (.int (0 : Int32)), (.int (0 : Int32)), (.int (0 : Int32)), (.int (0 : Int32)), (.int (0 : Int32)), (.int (0 : Int32)), (.int (0 : Int32))] T364.heap n0 Z364 Q373 U364_2 U364_0 U364_1 U364_3 U364_4 low355 low_b1_364 low_b2_364 ne_b355_b1_364 ne_b355_b2_364 pq364_0 (by decide) (by decide) (by decide) (Nat.le_of_ble_eq_true rfl) (Nat.le_of_ble_eq_true rfl)) hZ (hw _ (List.mem_of_getElem? (i := 34) rfl)) (hw _ (List.mem_of_getElem? (i := 3) rfl)) (by decide) (by decide)) q376a q376c (g := (mkF m 91 #[.val (.int p1), .val (.int p2), .val (.int p3), .val (.int p4), .val (.int p5), .val (.int p6), .val (.int (0 : Int32)), .val (.int (2 : Int32)), .val (.ref b345), .val (.ref b346), .val (.ref b348), .val (.ref b355), .val (.int (0 : Int32))] [(.int p5), (.int p4), (.ref b355)])) rfl (by rw [hml]; rfl) (Steps.refl _) (argsL := [(.int p4), (.int p5)]) (rest := []) (lenOf pd_0 rfl) rfl (by show 2 * 0 + _ ≤ _; exact Nat.le_of_eq rfl) (hb hby at_91) (fun _ _ => ⟨rfl, rfl, (by decide : 8 + 0 ≤ _), (by decide : 76 + 0 ≤ _)⟩)
      dsimp only [Pt.U, Pt.locs, Pt.cells, Pt.slots] at X376 l376 y376 z376 st376 hQ376
      subst l376 y376 z376
      obtain ⟨rfl, Nq376, Kq376, U376_0, U376_1, U376_2, U376_3, U376_4⟩ := hQ376
      have Q377 : Arv Z T376.heap b345 k345 .int (3 : Int32) [(.int (0 : Int32)), (.int (0 : Int32)), (.int (0 : Int32))] (.int (0 : Int32)) := Q365.keep Kq376 (ninS ne355_b345 (ninS ne_b345_b1_364 (ninS ne_b345_b2_364 nin0)))
      have Q378 : Arv Z T376.heap b346 k346 .int (3 : Int32) [(.int (0 : Int32)), (.int (0 : Int32)), (.int (0 : Int32))] (.int (0 : Int32)) := Q366.keep Kq376 (ninS ne355_b346 (ninS ne_b346_b1_364 (ninS ne_b346_b2_364 nin0)))
      have Q379 : Exa Z T376.heap b348 "com/example/axiomwright/axiomwright/Arcs" := Q367.keep Kq376
      have Q380 : Fld Z T376.heap b348 "com/example/axiomwright/axiomwright/Arcs" "from" "[I" (.ref b1_351) := Q368.keep Kq376 (ninS ne355_b348 (ninS ne_b348_b1_364 (ninS ne_b348_b2_364 nin0)))
      have Q381 : Fld Z T376.heap b348 "com/example/axiomwright/axiomwright/Arcs" "to" "[I" (.ref b2_351) := Q369.keep Kq376 (ninS ne355_b348 (ninS ne_b348_b1_364 (ninS ne_b348_b2_364 nin0)))
      have Q382 : Fld Z T376.heap b348 "com/example/axiomwright/axiomwright/Arcs" "size" "I" (.int (0 : Int32)) := Q370.keep Kq376 (ninS ne355_b348 (ninS ne_b348_b1_364 (ninS ne_b348_b2_364 nin0)))
      have Q383 : Arv Z T376.heap b1_351 k1_351 .int (16 : Int32) [(.int (0 : Int32)), (.int (0 : Int32)), (.int (0 : Int32)), (.int (0 : Int32)), (.int (0 : Int32)), (.int (0 : Int32)), (.int (0 : Int32)), (.int (0 : Int32)), (.int (0 : Int32)), (.int (0 : Int32)), (.int (0 : Int32)), (.int (0 : Int32)), (.int (0 : Int32)), (.int (0 : Int32)), (.int (0 : Int32)), (.int (0 : Int32))] (.int (0 : Int32)) := Q371.keep Kq376 (ninS ne355_b1_351 (ninS ne_b1_351_b1_364 (ninS ne_b1_351_b2_364 nin0)))
      have Q384 : Arv Z T376.heap b2_351 k2_351 .int (16 : Int32) [(.int (0 : Int32)), (.int (0 : Int32)), (.int (0 : Int32)), (.int (0 : Int32)), (.int (0 : Int32)), (.int (0 : Int32)), (.int (0 : Int32)), (.int (0 : Int32)), (.int (0 : Int32)), (.int (0 : Int32)), (.int (0 : Int32)), (.int (0 : Int32)), (.int (0 : Int32)), (.int (0 : Int32)), (.int (0 : Int32)), (.int (0 : Int32))] (.int (0 : Int32)) := Q372.keep Kq376 (ninS ne355_b2_351 (ninS ne_b2_351_b1_364 (ninS ne_b2_351_b2_364 nin0)))
      have Q385 : Exa Z T376.heap b355 "com/example/axiomwright/axiomwright/Arcs" := Q373.keep Kq376
      have U376_0n : Fld Z T376.heap b355 "com/example/axiomwright/axiomwright/Arcs" "size" "I" (.int (1 : Int32)) := U376_0
      have U376_3n : Arv Z T376.heap b1_364 k1_364 .int (16 : Int32) [(.int p4), (.int (0 : Int32)), (.int (0 : Int32)), (.int (0 : Int32)), (.int (0 : Int32)), (.int (0 : Int32)), (.int (0 : Int32)), (.int (0 : Int32)), (.int (0 : Int32)), (.int (0 : Int32)), (.int (0 : Int32)), (.int (0 : Int32)), (.int (0 : Int32)), (.int (0 : Int32)), (.int (0 : Int32)), (.int (0 : Int32))] (.int (0 : Int32)) := U376_3
      have U376_4n : Arv Z T376.heap b2_364 k2_364 .int (16 : Int32) [(.int p5), (.int (0 : Int32)), (.int (0 : Int32)), (.int (0 : Int32)), (.int (0 : Int32)), (.int (0 : Int32)), (.int (0 : Int32)), (.int (0 : Int32)), (.int (0 : Int32)), (.int (0 : Int32)), (.int (0 : Int32)), (.int (0 : Int32)), (.int (0 : Int32)), (.int (0 : Int32)), (.int (0 : Int32)), (.int (0 : Int32))] (.int (0 : Int32)) := U376_4
      have Z376 : n0 ≤ T376.heap.size := Nat.le_trans Z364 Kq376.1
      have K376 : Keep h0 T376.heap [] := K364.trans Kq376 (allS (Or.inr sz355) (allS (Or.inr sz_b1_364) (allS (Or.inr sz_b2_364) all0)))
      have N376 := Fr.app N364 Nq376
      refine own_go (A := _) (B := T376.setTop (mkF m 94 #[.val (.int p1), .val (.int p2), .val (.int p3), .val (.int p4), .val (.int p5), .val (.int p6), .val (.int (0 : Int32)), .val (.int (2 : Int32)), .val (.ref b345), .val (.ref b346), .val (.ref b348), .val (.ref b355), .val (.int (0 : Int32))] [])) (fun t k => st376.trans k) ?_
      refine own_go (A := T376.setTop (mkF m 94 #[.val (.int p1), .val (.int p2), .val (.int p3), .val (.int p4), .val (.int p5), .val (.int p6), .val (.int (0 : Int32)), .val (.int (2 : Int32)), .val (.ref b345), .val (.ref b346), .val (.ref b348), .val (.ref b355), .val (.int (0 : Int32))] [])) (B := T376.setTop (mkF m 99 #[.val (.int p1), .val (.int p2), .val (.int p3), .val (.int p4), .val (.int p5), .val (.int p6), .val (.int (0 : Int32)), .val (.int (2 : Int32)), .val (.ref b345), .val (.ref b346), .val (.ref b348), .val (.ref b355), .val (.int (0 : Int32))] [(.int p4), (.int (0 : Int32)), (.ref b345)])) (fun t k => ?_) ?_
      · show Steps p.tables e below (T376.setTop (mkF m 94 #[.val (.int p1), .val (.int p2), .val (.int p3), .val (.int p4), .val (.int p5), .val (.int p6), .val (.int (0 : Int32)), .val (.int (2 : Int32)), .val (.ref b345), .val (.ref b346), .val (.ref b348), .val (.ref b355), .val (.int (0 : Int32))] [])) _
        refine XS.aload X376.here hx rfl (hb hby at_94) rfl rfl ?_
        show Steps p.tables e below (T376.setTop (mkF m 96 #[.val (.int p1), .val (.int p2), .val (.int p3), .val (.int p4), .val (.int p5), .val (.int p6), .val (.int (0 : Int32)), .val (.int (2 : Int32)), .val (.ref b345), .val (.ref b346), .val (.ref b348), .val (.ref b355), .val (.int (0 : Int32))] [(.ref b345)])) _
        refine XS.iload X376.here hx rfl (hb hby at_96) rfl ?_
        show Steps p.tables e below (T376.setTop (mkF m 98 #[.val (.int p1), .val (.int p2), .val (.int p3), .val (.int p4), .val (.int p5), .val (.int p6), .val (.int (0 : Int32)), .val (.int (2 : Int32)), .val (.ref b345), .val (.ref b346), .val (.ref b348), .val (.ref b355), .val (.int (0 : Int32))] [(.int (0 : Int32)), (.ref b345)])) _
        refine XS.iloadN X376.here hx rfl (hb hby at_98) rfl ?_
        exact k
      obtain ⟨cl386, Ar386, q386, S386, M386, Ha386, G386⟩ := Q377
      have hin386 : ¬ ((0 : Int32) < 0 ∨ cl386.slots.size ≤ ((0 : Int32)).toNatClampNeg) := inb_of S386 ⟨by decide, by decide⟩
      obtain ⟨T386, h386, X386, e386, W386, st386⟩ := stI X376 hx hZ rfl Ar386 (j := (0 : Int32)) hin386 (g := (mkF m 99 #[.val (.int p1), .val (.int p2), .val (.int p3), .val (.int p4), .val (.int p5), .val (.int p6), .val (.int (0 : Int32)), .val (.int (2 : Int32)), .val (.ref b345), .val (.ref b346), .val (.ref b348), .val (.ref b355), .val (.int (0 : Int32))] [(.int p4), (.int (0 : Int32)), (.ref b345)])) rfl rfl (hb hby at_99)
      have Q387 : Arv Z h386 b346 k346 .int (3 : Int32) [(.int (0 : Int32)), (.int (0 : Int32)), (.int (0 : Int32))] (.int (0 : Int32)) := Q378.other W386 (Ne.symm ne346_b345)
      have Q388 : Exa Z h386 b348 "com/example/axiomwright/axiomwright/Arcs" := Q379.wr W386
      have Q389 : Fld Z h386 b348 "com/example/axiomwright/axiomwright/Arcs" "from" "[I" (.ref b1_351) := Q380.other W386 (Or.inl (Ne.symm ne348_b345))
      have Q390 : Fld Z h386 b348 "com/example/axiomwright/axiomwright/Arcs" "to" "[I" (.ref b2_351) := Q381.other W386 (Or.inl (Ne.symm ne348_b345))
      have Q391 : Fld Z h386 b348 "com/example/axiomwright/axiomwright/Arcs" "size" "I" (.int (0 : Int32)) := Q382.other W386 (Or.inl (Ne.symm ne348_b345))
      have Q392 : Arv Z h386 b1_351 k1_351 .int (16 : Int32) [(.int (0 : Int32)), (.int (0 : Int32)), (.int (0 : Int32)), (.int (0 : Int32)), (.int (0 : Int32)), (.int (0 : Int32)), (.int (0 : Int32)), (.int (0 : Int32)), (.int (0 : Int32)), (.int (0 : Int32)), (.int (0 : Int32)), (.int (0 : Int32)), (.int (0 : Int32)), (.int (0 : Int32)), (.int (0 : Int32)), (.int (0 : Int32))] (.int (0 : Int32)) := Q383.other W386 (Ne.symm ne_b345_b1_351)
      have Q393 : Arv Z h386 b2_351 k2_351 .int (16 : Int32) [(.int (0 : Int32)), (.int (0 : Int32)), (.int (0 : Int32)), (.int (0 : Int32)), (.int (0 : Int32)), (.int (0 : Int32)), (.int (0 : Int32)), (.int (0 : Int32)), (.int (0 : Int32)), (.int (0 : Int32)), (.int (0 : Int32)), (.int (0 : Int32)), (.int (0 : Int32)), (.int (0 : Int32)), (.int (0 : Int32)), (.int (0 : Int32))] (.int (0 : Int32)) := Q384.other W386 (Ne.symm ne_b345_b2_351)
      have Q394 : Exa Z h386 b355 "com/example/axiomwright/axiomwright/Arcs" := Q385.wr W386
      have Q395 : Fld Z h386 b355 "com/example/axiomwright/axiomwright/Arcs" "size" "I" (.int (1 : Int32)) := U376_0n.other W386 (Or.inl (Ne.symm ne355_b345))
      have Q396 : Fld Z h386 b355 "com/example/axiomwright/axiomwright/Arcs" "from" "[I" (.ref b1_364) := U376_1.other W386 (Or.inl (Ne.symm ne355_b345))
      have Q397 : Fld Z h386 b355 "com/example/axiomwright/axiomwright/Arcs" "to" "[I" (.ref b2_364) := U376_2.other W386 (Or.inl (Ne.symm ne355_b345))
      have Q398 : Arv Z h386 b1_364 k1_364 .int (16 : Int32) [(.int p4), (.int (0 : Int32)), (.int (0 : Int32)), (.int (0 : Int32)), (.int (0 : Int32)), (.int (0 : Int32)), (.int (0 : Int32)), (.int (0 : Int32)), (.int (0 : Int32)), (.int (0 : Int32)), (.int (0 : Int32)), (.int (0 : Int32)), (.int (0 : Int32)), (.int (0 : Int32)), (.int (0 : Int32)), (.int (0 : Int32))] (.int (0 : Int32)) := U376_3n.other W386 (Ne.symm ne_b345_b1_364)
      have Q399 : Arv Z h386 b2_364 k2_364 .int (16 : Int32) [(.int p5), (.int (0 : Int32)), (.int (0 : Int32)), (.int (0 : Int32)), (.int (0 : Int32)), (.int (0 : Int32)), (.int (0 : Int32)), (.int (0 : Int32)), (.int (0 : Int32)), (.int (0 : Int32)), (.int (0 : Int32)), (.int (0 : Int32)), (.int (0 : Int32)), (.int (0 : Int32)), (.int (0 : Int32)), (.int (0 : Int32))] (.int (0 : Int32)) := U376_4n.other W386 (Ne.symm ne_b345_b2_364)
      have U386 : Arv Z h386 b345 k345 .int (3 : Int32) [(.int p4), (.int (0 : Int32)), (.int (0 : Int32))] (.int (0 : Int32)) := Arv.set Ar386 q386 S386 M386 Ha386 G386 rfl W386 0 rfl (Nat.le_of_ble_eq_true rfl)
      have Z386 : n0 ≤ h386.size := Nat.le_trans Z376 (Keep.of_wr W386).1
      have N386 := Fr.snoc X386 N376 low345
      have K386 := K376.wr W386 (Or.inr sz345)
      refine own_go st386 ?_
      refine own_go (A := T386.setTop (mkF m 100 #[.val (.int p1), .val (.int p2), .val (.int p3), .val (.int p4), .val (.int p5), .val (.int p6), .val (.int (0 : Int32)), .val (.int (2 : Int32)), .val (.ref b345), .val (.ref b346), .val (.ref b348), .val (.ref b355), .val (.int (0 : Int32))] [])) (B := T386.setTop (mkF m 106 #[.val (.int p1), .val (.int p2), .val (.int p3), .val (.int p4), .val (.int p5), .val (.int p6), .val (.int (0 : Int32)), .val (.int (2 : Int32)), .val (.ref b345), .val (.ref b346), .val (.ref b348), .val (.ref b355), .val (.int (0 : Int32))] [(.int p5), (.int (0 : Int32)), (.ref b346)])) (fun t k => ?_) ?_
      · show Steps p.tables e below (T386.setTop (mkF m 100 #[.val (.int p1), .val (.int p2), .val (.int p3), .val (.int p4), .val (.int p5), .val (.int p6), .val (.int (0 : Int32)), .val (.int (2 : Int32)), .val (.ref b345), .val (.ref b346), .val (.ref b348), .val (.ref b355), .val (.int (0 : Int32))] [])) _
        refine XS.aload X386.here hx rfl (hb hby at_100) rfl rfl ?_
        show Steps p.tables e below (T386.setTop (mkF m 102 #[.val (.int p1), .val (.int p2), .val (.int p3), .val (.int p4), .val (.int p5), .val (.int p6), .val (.int (0 : Int32)), .val (.int (2 : Int32)), .val (.ref b345), .val (.ref b346), .val (.ref b348), .val (.ref b355), .val (.int (0 : Int32))] [(.ref b346)])) _
        refine XS.iload X386.here hx rfl (hb hby at_102) rfl ?_
        show Steps p.tables e below (T386.setTop (mkF m 104 #[.val (.int p1), .val (.int p2), .val (.int p3), .val (.int p4), .val (.int p5), .val (.int p6), .val (.int (0 : Int32)), .val (.int (2 : Int32)), .val (.ref b345), .val (.ref b346), .val (.ref b348), .val (.ref b355), .val (.int (0 : Int32))] [(.int (0 : Int32)), (.ref b346)])) _
        refine XS.iload X386.here hx rfl (hb hby at_104) rfl ?_
        exact k
      obtain ⟨cl400, Ar400, q400, S400, M400, Ha400, G400⟩ := Q387
      have hin400 : ¬ ((0 : Int32) < 0 ∨ cl400.slots.size ≤ ((0 : Int32)).toNatClampNeg) := inb_of S400 ⟨by decide, by decide⟩
      obtain ⟨T400, h400, X400, e400, W400, st400⟩ := stI X386 hx hZ e386 Ar400 (j := (0 : Int32)) hin400 (g := (mkF m 106 #[.val (.int p1), .val (.int p2), .val (.int p3), .val (.int p4), .val (.int p5), .val (.int p6), .val (.int (0 : Int32)), .val (.int (2 : Int32)), .val (.ref b345), .val (.ref b346), .val (.ref b348), .val (.ref b355), .val (.int (0 : Int32))] [(.int p5), (.int (0 : Int32)), (.ref b346)])) rfl rfl (hb hby at_106)
      have Q401 : Exa Z h400 b348 "com/example/axiomwright/axiomwright/Arcs" := Q388.wr W400
      have Q402 : Fld Z h400 b348 "com/example/axiomwright/axiomwright/Arcs" "from" "[I" (.ref b1_351) := Q389.other W400 (Or.inl (Ne.symm ne348_b346))
      have Q403 : Fld Z h400 b348 "com/example/axiomwright/axiomwright/Arcs" "to" "[I" (.ref b2_351) := Q390.other W400 (Or.inl (Ne.symm ne348_b346))
      have Q404 : Fld Z h400 b348 "com/example/axiomwright/axiomwright/Arcs" "size" "I" (.int (0 : Int32)) := Q391.other W400 (Or.inl (Ne.symm ne348_b346))
      have Q405 : Arv Z h400 b1_351 k1_351 .int (16 : Int32) [(.int (0 : Int32)), (.int (0 : Int32)), (.int (0 : Int32)), (.int (0 : Int32)), (.int (0 : Int32)), (.int (0 : Int32)), (.int (0 : Int32)), (.int (0 : Int32)), (.int (0 : Int32)), (.int (0 : Int32)), (.int (0 : Int32)), (.int (0 : Int32)), (.int (0 : Int32)), (.int (0 : Int32)), (.int (0 : Int32)), (.int (0 : Int32))] (.int (0 : Int32)) := Q392.other W400 (Ne.symm ne_b346_b1_351)
      have Q406 : Arv Z h400 b2_351 k2_351 .int (16 : Int32) [(.int (0 : Int32)), (.int (0 : Int32)), (.int (0 : Int32)), (.int (0 : Int32)), (.int (0 : Int32)), (.int (0 : Int32)), (.int (0 : Int32)), (.int (0 : Int32)), (.int (0 : Int32)), (.int (0 : Int32)), (.int (0 : Int32)), (.int (0 : Int32)), (.int (0 : Int32)), (.int (0 : Int32)), (.int (0 : Int32)), (.int (0 : Int32))] (.int (0 : Int32)) := Q393.other W400 (Ne.symm ne_b346_b2_351)
      have Q407 : Exa Z h400 b355 "com/example/axiomwright/axiomwright/Arcs" := Q394.wr W400
      have Q408 : Fld Z h400 b355 "com/example/axiomwright/axiomwright/Arcs" "size" "I" (.int (1 : Int32)) := Q395.other W400 (Or.inl (Ne.symm ne355_b346))
      have Q409 : Fld Z h400 b355 "com/example/axiomwright/axiomwright/Arcs" "from" "[I" (.ref b1_364) := Q396.other W400 (Or.inl (Ne.symm ne355_b346))
      have Q410 : Fld Z h400 b355 "com/example/axiomwright/axiomwright/Arcs" "to" "[I" (.ref b2_364) := Q397.other W400 (Or.inl (Ne.symm ne355_b346))
      have Q411 : Arv Z h400 b1_364 k1_364 .int (16 : Int32) [(.int p4), (.int (0 : Int32)), (.int (0 : Int32)), (.int (0 : Int32)), (.int (0 : Int32)), (.int (0 : Int32)), (.int (0 : Int32)), (.int (0 : Int32)), (.int (0 : Int32)), (.int (0 : Int32)), (.int (0 : Int32)), (.int (0 : Int32)), (.int (0 : Int32)), (.int (0 : Int32)), (.int (0 : Int32)), (.int (0 : Int32))] (.int (0 : Int32)) := Q398.other W400 (Ne.symm ne_b346_b1_364)
      have Q412 : Arv Z h400 b2_364 k2_364 .int (16 : Int32) [(.int p5), (.int (0 : Int32)), (.int (0 : Int32)), (.int (0 : Int32)), (.int (0 : Int32)), (.int (0 : Int32)), (.int (0 : Int32)), (.int (0 : Int32)), (.int (0 : Int32)), (.int (0 : Int32)), (.int (0 : Int32)), (.int (0 : Int32)), (.int (0 : Int32)), (.int (0 : Int32)), (.int (0 : Int32)), (.int (0 : Int32))] (.int (0 : Int32)) := Q399.other W400 (Ne.symm ne_b346_b2_364)
      have Q413 : Arv Z h400 b345 k345 .int (3 : Int32) [(.int p4), (.int (0 : Int32)), (.int (0 : Int32))] (.int (0 : Int32)) := U386.other W400 ne346_b345
      have U400 : Arv Z h400 b346 k346 .int (3 : Int32) [(.int p5), (.int (0 : Int32)), (.int (0 : Int32))] (.int (0 : Int32)) := Arv.set Ar400 q400 S400 M400 Ha400 G400 rfl W400 0 rfl (Nat.le_of_ble_eq_true rfl)
      have Z400 : n0 ≤ h400.size := Nat.le_trans Z386 (Keep.of_wr W400).1
      have N400 := Fr.snoc X400 N386 low346
      have K400 := K386.wr W400 (Or.inr sz346)
      refine own_go st400 ?_
      refine own_go (A := T400.setTop (mkF m 107 #[.val (.int p1), .val (.int p2), .val (.int p3), .val (.int p4), .val (.int p5), .val (.int p6), .val (.int (0 : Int32)), .val (.int (2 : Int32)), .val (.ref b345), .val (.ref b346), .val (.ref b348), .val (.ref b355), .val (.int (0 : Int32))] [])) (B := T400.setTop (mkF m 121 #[.val (.int p1), .val (.int p2), .val (.int p3), .val (.int p4), .val (.int p5), .val (.int p6), .val (.int (0 : Int32)), .val (.int (2 : Int32)), .val (.ref b345), .val (.ref b346), .val (.ref b348), .val (.ref b355), .val (.int (1 : Int32))] [(.int p2), (.int p6), (.ref b355)])) (fun t k => ?_) ?_
      · show Steps p.tables e below (T400.setTop (mkF m 107 #[.val (.int p1), .val (.int p2), .val (.int p3), .val (.int p4), .val (.int p5), .val (.int p6), .val (.int (0 : Int32)), .val (.int (2 : Int32)), .val (.ref b345), .val (.ref b346), .val (.ref b348), .val (.ref b355), .val (.int (0 : Int32))] [])) _
        refine XS.iinc X400.here hx rfl (hb hby at_107) rfl (l' := #[.val (.int p1), .val (.int p2), .val (.int p3), .val (.int p4), .val (.int p5), .val (.int p6), .val (.int (0 : Int32)), .val (.int (2 : Int32)), .val (.ref b345), .val (.ref b346), .val (.ref b348), .val (.ref b355), .val (.int (1 : Int32))]) rfl ?_
        show Steps p.tables e below (T400.setTop (mkF m 110 #[.val (.int p1), .val (.int p2), .val (.int p3), .val (.int p4), .val (.int p5), .val (.int p6), .val (.int (0 : Int32)), .val (.int (2 : Int32)), .val (.ref b345), .val (.ref b346), .val (.ref b348), .val (.ref b355), .val (.int (1 : Int32))] [])) _
        refine XS.iload X400.here hx rfl (hb hby at_110) rfl ?_
        show Steps p.tables e below (T400.setTop (mkF m 112 #[.val (.int p1), .val (.int p2), .val (.int p3), .val (.int p4), .val (.int p5), .val (.int p6), .val (.int (0 : Int32)), .val (.int (2 : Int32)), .val (.ref b345), .val (.ref b346), .val (.ref b348), .val (.ref b355), .val (.int (1 : Int32))] [(.int (2 : Int32))])) _
        refine XS.iconst X400.here hx rfl (hb hby at_112) ?_
        show Steps p.tables e below (T400.setTop (mkF m 113 #[.val (.int p1), .val (.int p2), .val (.int p3), .val (.int p4), .val (.int p5), .val (.int p6), .val (.int (0 : Int32)), .val (.int (2 : Int32)), .val (.ref b345), .val (.ref b346), .val (.ref b348), .val (.ref b355), .val (.int (1 : Int32))] [(.int (2 : Int32)), (.int (2 : Int32))])) _
        refine XS.icmpNo X400.here hx rfl (hb hby at_113) rfl (flt Int32.lt_irrefl).1 ?_
        show Steps p.tables e below (T400.setTop (mkF m 116 #[.val (.int p1), .val (.int p2), .val (.int p3), .val (.int p4), .val (.int p5), .val (.int p6), .val (.int (0 : Int32)), .val (.int (2 : Int32)), .val (.ref b345), .val (.ref b346), .val (.ref b348), .val (.ref b355), .val (.int (1 : Int32))] [])) _
        refine XS.aload X400.here hx rfl (hb hby at_116) rfl rfl ?_
        show Steps p.tables e below (T400.setTop (mkF m 118 #[.val (.int p1), .val (.int p2), .val (.int p3), .val (.int p4), .val (.int p5), .val (.int p6), .val (.int (0 : Int32)), .val (.int (2 : Int32)), .val (.ref b345), .val (.ref b346), .val (.ref b348), .val (.ref b355), .val (.int (1 : Int32))] [(.ref b355)])) _
        refine XS.iload X400.here hx rfl (hb hby at_118) rfl ?_
        show Steps p.tables e below (T400.setTop (mkF m 120 #[.val (.int p1), .val (.int p2), .val (.int p3), .val (.int p4), .val (.int p5), .val (.int p6), .val (.int (0 : Int32)), .val (.int (2 : Int32)), .val (.ref b345), .val (.ref b346), .val (.ref b348), .val (.ref b355), .val (.int (1 : Int32))] [(.int p6), (.ref b355)])) _
        refine XS.iloadN X400.here hx rfl (hb hby at_120) rfl ?_
        exact k
      obtain ⟨cq415, kq415, q415a, q415b, q415c⟩ := isOf hZ e400 Q407
      obtain ⟨_, _, ⟨T415, L415, k415, n415⟩, -, X415, ⟨Lc415, hQ415, l415, y415, z415⟩, st415⟩ := X400.virtualBack hx (y := (⟨"com/example/axiomwright/axiomwright/Arcs", "add", "(II)V"⟩ : MethodName)) (z := (⟨"com/example/axiomwright/axiomwright/Arcs", "add", "(II)V"⟩ : MethodName)) hown (mvT hZ (hw _ (List.mem_of_getElem? (i := 30) rfl))) (mvT hZ (hw _ (List.mem_of_getElem? (i := 31) rfl))) (notFace_of_selects (args := #[]) (mvT hZ (hw _ (List.mem_of_getElem? (i := 33) rfl)))) (mvT hZ (hw _ (List.mem_of_getElem? (i := 33) rfl))) (mvT hZ (hw _ (List.mem_of_getElem? (i := 32) rfl))) (by decide) (backOf (W := 0) (rm6 l Z a0 hw [] b355 p6 p2 (1 : Int32) b1_364 b2_364 k1_364 k2_364 [(.int p4), (.int (0 : Int32)), (.int (0 : Int32)), (.int (0 : Int32)), (.int (0 : Int32)), (.int (0 : Int32)), (.int (0 : Int32)), (.int (0 : Int32)), (.int (0 : Int32)), (.int (0 : Int32)), (.int (0 : Int32)), (.int (0 : Int32)), (.int (0 : Int32)), (.int (0 : Int32)), (.int (0 : Int32)), (.int (0 : Int32))] [(.int p5), (.int (0 : Int32)), (.int (0 : Int32)), (.int (0 : Int32)), (.int (0 : Int32)), (.int (0 : Int32)), (.int (0 : Int32)), (.int (0 : Int32)), (.int (0 : Int32)), (.int (0 : Int32)), (.int (0 : Int32)), (.int (0 : Int32)), (.int (0 : Int32)), (.int (0 : Int32)), (.int (0 : Int32)), (.int (0 : Int32))] h400 n0 Z400 Q407 Q408 Q409 Q410 Q411 Q412 low355 low_b1_364 low_b2_364 ne_b355_b1_364 ne_b355_b2_364 pq364_0 (by decide) (by decide) (by decide) (Nat.le_of_ble_eq_true rfl) (Nat.le_of_ble_eq_true rfl)) hZ (hw _ (List.mem_of_getElem? (i := 34) rfl)) (hw _ (List.mem_of_getElem? (i := 3) rfl)) (by decide) (by decide)) q415a q415c (g := (mkF m 121 #[.val (.int p1), .val (.int p2), .val (.int p3), .val (.int p4), .val (.int p5), .val (.int p6), .val (.int (0 : Int32)), .val (.int (2 : Int32)), .val (.ref b345), .val (.ref b346), .val (.ref b348), .val (.ref b355), .val (.int (1 : Int32))] [(.int p2), (.int p6), (.ref b355)])) rfl (by rw [hml]; rfl) (Steps.refl _) (argsL := [(.int p6), (.int p2)]) (rest := []) (lenOf pd_0 rfl) rfl (by show 2 * 0 + _ ≤ _; exact Nat.le_of_eq rfl) (hb hby at_121) (fun _ _ => ⟨rfl, e400, (by decide : 8 + 0 ≤ _), (by decide : 76 + 0 ≤ _)⟩)
      dsimp only [Pt.U, Pt.locs, Pt.cells, Pt.slots] at X415 l415 y415 z415 st415 hQ415
      subst l415 y415 z415
      obtain ⟨rfl, Nq415, Kq415, U415_0, U415_1, U415_2, U415_3, U415_4⟩ := hQ415
      have Q416 : Exa Z T415.heap b348 "com/example/axiomwright/axiomwright/Arcs" := Q401.keep Kq415
      have Q417 : Fld Z T415.heap b348 "com/example/axiomwright/axiomwright/Arcs" "from" "[I" (.ref b1_351) := Q402.keep Kq415 (ninS ne355_b348 (ninS ne_b348_b1_364 (ninS ne_b348_b2_364 nin0)))
      have Q418 : Fld Z T415.heap b348 "com/example/axiomwright/axiomwright/Arcs" "to" "[I" (.ref b2_351) := Q403.keep Kq415 (ninS ne355_b348 (ninS ne_b348_b1_364 (ninS ne_b348_b2_364 nin0)))
      have Q419 : Fld Z T415.heap b348 "com/example/axiomwright/axiomwright/Arcs" "size" "I" (.int (0 : Int32)) := Q404.keep Kq415 (ninS ne355_b348 (ninS ne_b348_b1_364 (ninS ne_b348_b2_364 nin0)))
      have Q420 : Arv Z T415.heap b1_351 k1_351 .int (16 : Int32) [(.int (0 : Int32)), (.int (0 : Int32)), (.int (0 : Int32)), (.int (0 : Int32)), (.int (0 : Int32)), (.int (0 : Int32)), (.int (0 : Int32)), (.int (0 : Int32)), (.int (0 : Int32)), (.int (0 : Int32)), (.int (0 : Int32)), (.int (0 : Int32)), (.int (0 : Int32)), (.int (0 : Int32)), (.int (0 : Int32)), (.int (0 : Int32))] (.int (0 : Int32)) := Q405.keep Kq415 (ninS ne355_b1_351 (ninS ne_b1_351_b1_364 (ninS ne_b1_351_b2_364 nin0)))
      have Q421 : Arv Z T415.heap b2_351 k2_351 .int (16 : Int32) [(.int (0 : Int32)), (.int (0 : Int32)), (.int (0 : Int32)), (.int (0 : Int32)), (.int (0 : Int32)), (.int (0 : Int32)), (.int (0 : Int32)), (.int (0 : Int32)), (.int (0 : Int32)), (.int (0 : Int32)), (.int (0 : Int32)), (.int (0 : Int32)), (.int (0 : Int32)), (.int (0 : Int32)), (.int (0 : Int32)), (.int (0 : Int32))] (.int (0 : Int32)) := Q406.keep Kq415 (ninS ne355_b2_351 (ninS ne_b2_351_b1_364 (ninS ne_b2_351_b2_364 nin0)))
      have Q422 : Exa Z T415.heap b355 "com/example/axiomwright/axiomwright/Arcs" := Q407.keep Kq415
      have Q423 : Arv Z T415.heap b345 k345 .int (3 : Int32) [(.int p4), (.int (0 : Int32)), (.int (0 : Int32))] (.int (0 : Int32)) := Q413.keep Kq415 (ninS ne355_b345 (ninS ne_b345_b1_364 (ninS ne_b345_b2_364 nin0)))
      have Q424 : Arv Z T415.heap b346 k346 .int (3 : Int32) [(.int p5), (.int (0 : Int32)), (.int (0 : Int32))] (.int (0 : Int32)) := U400.keep Kq415 (ninS ne355_b346 (ninS ne_b346_b1_364 (ninS ne_b346_b2_364 nin0)))
      have U415_0n : Fld Z T415.heap b355 "com/example/axiomwright/axiomwright/Arcs" "size" "I" (.int (2 : Int32)) := U415_0
      have U415_3n : Arv Z T415.heap b1_364 k1_364 .int (16 : Int32) [(.int p4), (.int p6), (.int (0 : Int32)), (.int (0 : Int32)), (.int (0 : Int32)), (.int (0 : Int32)), (.int (0 : Int32)), (.int (0 : Int32)), (.int (0 : Int32)), (.int (0 : Int32)), (.int (0 : Int32)), (.int (0 : Int32)), (.int (0 : Int32)), (.int (0 : Int32)), (.int (0 : Int32)), (.int (0 : Int32))] (.int (0 : Int32)) := U415_3
      have U415_4n : Arv Z T415.heap b2_364 k2_364 .int (16 : Int32) [(.int p5), (.int p2), (.int (0 : Int32)), (.int (0 : Int32)), (.int (0 : Int32)), (.int (0 : Int32)), (.int (0 : Int32)), (.int (0 : Int32)), (.int (0 : Int32)), (.int (0 : Int32)), (.int (0 : Int32)), (.int (0 : Int32)), (.int (0 : Int32)), (.int (0 : Int32)), (.int (0 : Int32)), (.int (0 : Int32))] (.int (0 : Int32)) := U415_4
      have Z415 : n0 ≤ T415.heap.size := Nat.le_trans Z400 Kq415.1
      have K415 : Keep h0 T415.heap [] := K400.trans Kq415 (allS (Or.inr sz355) (allS (Or.inr sz_b1_364) (allS (Or.inr sz_b2_364) all0)))
      have N415 := Fr.app N400 Nq415
      refine own_go (A := _) (B := T415.setTop (mkF m 124 #[.val (.int p1), .val (.int p2), .val (.int p3), .val (.int p4), .val (.int p5), .val (.int p6), .val (.int (0 : Int32)), .val (.int (2 : Int32)), .val (.ref b345), .val (.ref b346), .val (.ref b348), .val (.ref b355), .val (.int (1 : Int32))] [])) (fun t k => st415.trans k) ?_
      refine own_go (A := T415.setTop (mkF m 124 #[.val (.int p1), .val (.int p2), .val (.int p3), .val (.int p4), .val (.int p5), .val (.int p6), .val (.int (0 : Int32)), .val (.int (2 : Int32)), .val (.ref b345), .val (.ref b346), .val (.ref b348), .val (.ref b355), .val (.int (1 : Int32))] [])) (B := T415.setTop (mkF m 130 #[.val (.int p1), .val (.int p2), .val (.int p3), .val (.int p4), .val (.int p5), .val (.int p6), .val (.int (0 : Int32)), .val (.int (2 : Int32)), .val (.ref b345), .val (.ref b346), .val (.ref b348), .val (.ref b355), .val (.int (1 : Int32))] [(.int p6), (.int (1 : Int32)), (.ref b345)])) (fun t k => ?_) ?_
      · show Steps p.tables e below (T415.setTop (mkF m 124 #[.val (.int p1), .val (.int p2), .val (.int p3), .val (.int p4), .val (.int p5), .val (.int p6), .val (.int (0 : Int32)), .val (.int (2 : Int32)), .val (.ref b345), .val (.ref b346), .val (.ref b348), .val (.ref b355), .val (.int (1 : Int32))] [])) _
        refine XS.aload X415.here hx rfl (hb hby at_124) rfl rfl ?_
        show Steps p.tables e below (T415.setTop (mkF m 126 #[.val (.int p1), .val (.int p2), .val (.int p3), .val (.int p4), .val (.int p5), .val (.int p6), .val (.int (0 : Int32)), .val (.int (2 : Int32)), .val (.ref b345), .val (.ref b346), .val (.ref b348), .val (.ref b355), .val (.int (1 : Int32))] [(.ref b345)])) _
        refine XS.iload X415.here hx rfl (hb hby at_126) rfl ?_
        show Steps p.tables e below (T415.setTop (mkF m 128 #[.val (.int p1), .val (.int p2), .val (.int p3), .val (.int p4), .val (.int p5), .val (.int p6), .val (.int (0 : Int32)), .val (.int (2 : Int32)), .val (.ref b345), .val (.ref b346), .val (.ref b348), .val (.ref b355), .val (.int (1 : Int32))] [(.int (1 : Int32)), (.ref b345)])) _
        refine XS.iload X415.here hx rfl (hb hby at_128) rfl ?_
        exact k
      obtain ⟨cl425, Ar425, q425, S425, M425, Ha425, G425⟩ := Q423
      have hin425 : ¬ ((1 : Int32) < 0 ∨ cl425.slots.size ≤ ((1 : Int32)).toNatClampNeg) := inb_of S425 ⟨by decide, by decide⟩
      obtain ⟨T425, h425, X425, e425, W425, st425⟩ := stI X415 hx hZ rfl Ar425 (j := (1 : Int32)) hin425 (g := (mkF m 130 #[.val (.int p1), .val (.int p2), .val (.int p3), .val (.int p4), .val (.int p5), .val (.int p6), .val (.int (0 : Int32)), .val (.int (2 : Int32)), .val (.ref b345), .val (.ref b346), .val (.ref b348), .val (.ref b355), .val (.int (1 : Int32))] [(.int p6), (.int (1 : Int32)), (.ref b345)])) rfl rfl (hb hby at_130)
      have Q426 : Exa Z h425 b348 "com/example/axiomwright/axiomwright/Arcs" := Q416.wr W425
      have Q427 : Fld Z h425 b348 "com/example/axiomwright/axiomwright/Arcs" "from" "[I" (.ref b1_351) := Q417.other W425 (Or.inl (Ne.symm ne348_b345))
      have Q428 : Fld Z h425 b348 "com/example/axiomwright/axiomwright/Arcs" "to" "[I" (.ref b2_351) := Q418.other W425 (Or.inl (Ne.symm ne348_b345))
      have Q429 : Fld Z h425 b348 "com/example/axiomwright/axiomwright/Arcs" "size" "I" (.int (0 : Int32)) := Q419.other W425 (Or.inl (Ne.symm ne348_b345))
      have Q430 : Arv Z h425 b1_351 k1_351 .int (16 : Int32) [(.int (0 : Int32)), (.int (0 : Int32)), (.int (0 : Int32)), (.int (0 : Int32)), (.int (0 : Int32)), (.int (0 : Int32)), (.int (0 : Int32)), (.int (0 : Int32)), (.int (0 : Int32)), (.int (0 : Int32)), (.int (0 : Int32)), (.int (0 : Int32)), (.int (0 : Int32)), (.int (0 : Int32)), (.int (0 : Int32)), (.int (0 : Int32))] (.int (0 : Int32)) := Q420.other W425 (Ne.symm ne_b345_b1_351)
      have Q431 : Arv Z h425 b2_351 k2_351 .int (16 : Int32) [(.int (0 : Int32)), (.int (0 : Int32)), (.int (0 : Int32)), (.int (0 : Int32)), (.int (0 : Int32)), (.int (0 : Int32)), (.int (0 : Int32)), (.int (0 : Int32)), (.int (0 : Int32)), (.int (0 : Int32)), (.int (0 : Int32)), (.int (0 : Int32)), (.int (0 : Int32)), (.int (0 : Int32)), (.int (0 : Int32)), (.int (0 : Int32))] (.int (0 : Int32)) := Q421.other W425 (Ne.symm ne_b345_b2_351)
      have Q432 : Exa Z h425 b355 "com/example/axiomwright/axiomwright/Arcs" := Q422.wr W425
      have Q433 : Arv Z h425 b346 k346 .int (3 : Int32) [(.int p5), (.int (0 : Int32)), (.int (0 : Int32))] (.int (0 : Int32)) := Q424.other W425 (Ne.symm ne346_b345)
      have Q434 : Fld Z h425 b355 "com/example/axiomwright/axiomwright/Arcs" "size" "I" (.int (2 : Int32)) := U415_0n.other W425 (Or.inl (Ne.symm ne355_b345))
      have Q435 : Fld Z h425 b355 "com/example/axiomwright/axiomwright/Arcs" "from" "[I" (.ref b1_364) := U415_1.other W425 (Or.inl (Ne.symm ne355_b345))
      have Q436 : Fld Z h425 b355 "com/example/axiomwright/axiomwright/Arcs" "to" "[I" (.ref b2_364) := U415_2.other W425 (Or.inl (Ne.symm ne355_b345))
      have Q437 : Arv Z h425 b1_364 k1_364 .int (16 : Int32) [(.int p4), (.int p6), (.int (0 : Int32)), (.int (0 : Int32)), (.int (0 : Int32)), (.int (0 : Int32)), (.int (0 : Int32)), (.int (0 : Int32)), (.int (0 : Int32)), (.int (0 : Int32)), (.int (0 : Int32)), (.int (0 : Int32)), (.int (0 : Int32)), (.int (0 : Int32)), (.int (0 : Int32)), (.int (0 : Int32))] (.int (0 : Int32)) := U415_3n.other W425 (Ne.symm ne_b345_b1_364)
      have Q438 : Arv Z h425 b2_364 k2_364 .int (16 : Int32) [(.int p5), (.int p2), (.int (0 : Int32)), (.int (0 : Int32)), (.int (0 : Int32)), (.int (0 : Int32)), (.int (0 : Int32)), (.int (0 : Int32)), (.int (0 : Int32)), (.int (0 : Int32)), (.int (0 : Int32)), (.int (0 : Int32)), (.int (0 : Int32)), (.int (0 : Int32)), (.int (0 : Int32)), (.int (0 : Int32))] (.int (0 : Int32)) := U415_4n.other W425 (Ne.symm ne_b345_b2_364)
      have U425 : Arv Z h425 b345 k345 .int (3 : Int32) [(.int p4), (.int p6), (.int (0 : Int32))] (.int (0 : Int32)) := Arv.set Ar425 q425 S425 M425 Ha425 G425 rfl W425 1 rfl (Nat.le_of_ble_eq_true rfl)
      have Z425 : n0 ≤ h425.size := Nat.le_trans Z415 (Keep.of_wr W425).1
      have N425 := Fr.snoc X425 N415 low345
      have K425 := K415.wr W425 (Or.inr sz345)
      refine own_go st425 ?_
      refine own_go (A := T425.setTop (mkF m 131 #[.val (.int p1), .val (.int p2), .val (.int p3), .val (.int p4), .val (.int p5), .val (.int p6), .val (.int (0 : Int32)), .val (.int (2 : Int32)), .val (.ref b345), .val (.ref b346), .val (.ref b348), .val (.ref b355), .val (.int (1 : Int32))] [])) (B := T425.setTop (mkF m 136 #[.val (.int p1), .val (.int p2), .val (.int p3), .val (.int p4), .val (.int p5), .val (.int p6), .val (.int (0 : Int32)), .val (.int (2 : Int32)), .val (.ref b345), .val (.ref b346), .val (.ref b348), .val (.ref b355), .val (.int (1 : Int32))] [(.int p2), (.int (1 : Int32)), (.ref b346)])) (fun t k => ?_) ?_
      · show Steps p.tables e below (T425.setTop (mkF m 131 #[.val (.int p1), .val (.int p2), .val (.int p3), .val (.int p4), .val (.int p5), .val (.int p6), .val (.int (0 : Int32)), .val (.int (2 : Int32)), .val (.ref b345), .val (.ref b346), .val (.ref b348), .val (.ref b355), .val (.int (1 : Int32))] [])) _
        refine XS.aload X425.here hx rfl (hb hby at_131) rfl rfl ?_
        show Steps p.tables e below (T425.setTop (mkF m 133 #[.val (.int p1), .val (.int p2), .val (.int p3), .val (.int p4), .val (.int p5), .val (.int p6), .val (.int (0 : Int32)), .val (.int (2 : Int32)), .val (.ref b345), .val (.ref b346), .val (.ref b348), .val (.ref b355), .val (.int (1 : Int32))] [(.ref b346)])) _
        refine XS.iload X425.here hx rfl (hb hby at_133) rfl ?_
        show Steps p.tables e below (T425.setTop (mkF m 135 #[.val (.int p1), .val (.int p2), .val (.int p3), .val (.int p4), .val (.int p5), .val (.int p6), .val (.int (0 : Int32)), .val (.int (2 : Int32)), .val (.ref b345), .val (.ref b346), .val (.ref b348), .val (.ref b355), .val (.int (1 : Int32))] [(.int (1 : Int32)), (.ref b346)])) _
        refine XS.iloadN X425.here hx rfl (hb hby at_135) rfl ?_
        exact k
      obtain ⟨cl439, Ar439, q439, S439, M439, Ha439, G439⟩ := Q433
      have hin439 : ¬ ((1 : Int32) < 0 ∨ cl439.slots.size ≤ ((1 : Int32)).toNatClampNeg) := inb_of S439 ⟨by decide, by decide⟩
      obtain ⟨T439, h439, X439, e439, W439, st439⟩ := stI X425 hx hZ e425 Ar439 (j := (1 : Int32)) hin439 (g := (mkF m 136 #[.val (.int p1), .val (.int p2), .val (.int p3), .val (.int p4), .val (.int p5), .val (.int p6), .val (.int (0 : Int32)), .val (.int (2 : Int32)), .val (.ref b345), .val (.ref b346), .val (.ref b348), .val (.ref b355), .val (.int (1 : Int32))] [(.int p2), (.int (1 : Int32)), (.ref b346)])) rfl rfl (hb hby at_136)
      have Q440 : Exa Z h439 b348 "com/example/axiomwright/axiomwright/Arcs" := Q426.wr W439
      have Q441 : Fld Z h439 b348 "com/example/axiomwright/axiomwright/Arcs" "from" "[I" (.ref b1_351) := Q427.other W439 (Or.inl (Ne.symm ne348_b346))
      have Q442 : Fld Z h439 b348 "com/example/axiomwright/axiomwright/Arcs" "to" "[I" (.ref b2_351) := Q428.other W439 (Or.inl (Ne.symm ne348_b346))
      have Q443 : Fld Z h439 b348 "com/example/axiomwright/axiomwright/Arcs" "size" "I" (.int (0 : Int32)) := Q429.other W439 (Or.inl (Ne.symm ne348_b346))
      have Q444 : Arv Z h439 b1_351 k1_351 .int (16 : Int32) [(.int (0 : Int32)), (.int (0 : Int32)), (.int (0 : Int32)), (.int (0 : Int32)), (.int (0 : Int32)), (.int (0 : Int32)), (.int (0 : Int32)), (.int (0 : Int32)), (.int (0 : Int32)), (.int (0 : Int32)), (.int (0 : Int32)), (.int (0 : Int32)), (.int (0 : Int32)), (.int (0 : Int32)), (.int (0 : Int32)), (.int (0 : Int32))] (.int (0 : Int32)) := Q430.other W439 (Ne.symm ne_b346_b1_351)
      have Q445 : Arv Z h439 b2_351 k2_351 .int (16 : Int32) [(.int (0 : Int32)), (.int (0 : Int32)), (.int (0 : Int32)), (.int (0 : Int32)), (.int (0 : Int32)), (.int (0 : Int32)), (.int (0 : Int32)), (.int (0 : Int32)), (.int (0 : Int32)), (.int (0 : Int32)), (.int (0 : Int32)), (.int (0 : Int32)), (.int (0 : Int32)), (.int (0 : Int32)), (.int (0 : Int32)), (.int (0 : Int32))] (.int (0 : Int32)) := Q431.other W439 (Ne.symm ne_b346_b2_351)
      have Q446 : Exa Z h439 b355 "com/example/axiomwright/axiomwright/Arcs" := Q432.wr W439
      have Q447 : Fld Z h439 b355 "com/example/axiomwright/axiomwright/Arcs" "size" "I" (.int (2 : Int32)) := Q434.other W439 (Or.inl (Ne.symm ne355_b346))
      have Q448 : Fld Z h439 b355 "com/example/axiomwright/axiomwright/Arcs" "from" "[I" (.ref b1_364) := Q435.other W439 (Or.inl (Ne.symm ne355_b346))
      have Q449 : Fld Z h439 b355 "com/example/axiomwright/axiomwright/Arcs" "to" "[I" (.ref b2_364) := Q436.other W439 (Or.inl (Ne.symm ne355_b346))
      have Q450 : Arv Z h439 b1_364 k1_364 .int (16 : Int32) [(.int p4), (.int p6), (.int (0 : Int32)), (.int (0 : Int32)), (.int (0 : Int32)), (.int (0 : Int32)), (.int (0 : Int32)), (.int (0 : Int32)), (.int (0 : Int32)), (.int (0 : Int32)), (.int (0 : Int32)), (.int (0 : Int32)), (.int (0 : Int32)), (.int (0 : Int32)), (.int (0 : Int32)), (.int (0 : Int32))] (.int (0 : Int32)) := Q437.other W439 (Ne.symm ne_b346_b1_364)
      have Q451 : Arv Z h439 b2_364 k2_364 .int (16 : Int32) [(.int p5), (.int p2), (.int (0 : Int32)), (.int (0 : Int32)), (.int (0 : Int32)), (.int (0 : Int32)), (.int (0 : Int32)), (.int (0 : Int32)), (.int (0 : Int32)), (.int (0 : Int32)), (.int (0 : Int32)), (.int (0 : Int32)), (.int (0 : Int32)), (.int (0 : Int32)), (.int (0 : Int32)), (.int (0 : Int32))] (.int (0 : Int32)) := Q438.other W439 (Ne.symm ne_b346_b2_364)
      have Q452 : Arv Z h439 b345 k345 .int (3 : Int32) [(.int p4), (.int p6), (.int (0 : Int32))] (.int (0 : Int32)) := U425.other W439 ne346_b345
      have U439 : Arv Z h439 b346 k346 .int (3 : Int32) [(.int p5), (.int p2), (.int (0 : Int32))] (.int (0 : Int32)) := Arv.set Ar439 q439 S439 M439 Ha439 G439 rfl W439 1 rfl (Nat.le_of_ble_eq_true rfl)
      have Z439 : n0 ≤ h439.size := Nat.le_trans Z425 (Keep.of_wr W439).1
      have N439 := Fr.snoc X439 N425 low346
      have K439 := K425.wr W439 (Or.inr sz346)
      refine own_go st439 ?_
      refine own_go (A := T439.setTop (mkF m 137 #[.val (.int p1), .val (.int p2), .val (.int p3), .val (.int p4), .val (.int p5), .val (.int p6), .val (.int (0 : Int32)), .val (.int (2 : Int32)), .val (.ref b345), .val (.ref b346), .val (.ref b348), .val (.ref b355), .val (.int (1 : Int32))] [])) (B := T439.setTop (mkF m 144 #[.val (.int p1), .val (.int p2), .val (.int p3), .val (.int p4), .val (.int p5), .val (.int p6), .val (.int (0 : Int32)), .val (.int (2 : Int32)), .val (.ref b345), .val (.ref b346), .val (.ref b348), .val (.ref b355), .val (.int (2 : Int32))] [(.ref b355), (.ref b348)])) (fun t k => ?_) ?_
      · show Steps p.tables e below (T439.setTop (mkF m 137 #[.val (.int p1), .val (.int p2), .val (.int p3), .val (.int p4), .val (.int p5), .val (.int p6), .val (.int (0 : Int32)), .val (.int (2 : Int32)), .val (.ref b345), .val (.ref b346), .val (.ref b348), .val (.ref b355), .val (.int (1 : Int32))] [])) _
        refine XS.iinc X439.here hx rfl (hb hby at_137) rfl (l' := #[.val (.int p1), .val (.int p2), .val (.int p3), .val (.int p4), .val (.int p5), .val (.int p6), .val (.int (0 : Int32)), .val (.int (2 : Int32)), .val (.ref b345), .val (.ref b346), .val (.ref b348), .val (.ref b355), .val (.int (2 : Int32))]) rfl ?_
        show Steps p.tables e below (T439.setTop (mkF m 140 #[.val (.int p1), .val (.int p2), .val (.int p3), .val (.int p4), .val (.int p5), .val (.int p6), .val (.int (0 : Int32)), .val (.int (2 : Int32)), .val (.ref b345), .val (.ref b346), .val (.ref b348), .val (.ref b355), .val (.int (2 : Int32))] [])) _
        refine XS.aload X439.here hx rfl (hb hby at_140) rfl rfl ?_
        show Steps p.tables e below (T439.setTop (mkF m 142 #[.val (.int p1), .val (.int p2), .val (.int p3), .val (.int p4), .val (.int p5), .val (.int p6), .val (.int (0 : Int32)), .val (.int (2 : Int32)), .val (.ref b345), .val (.ref b346), .val (.ref b348), .val (.ref b355), .val (.int (2 : Int32))] [(.ref b348)])) _
        refine XS.aload X439.here hx rfl (hb hby at_142) rfl rfl ?_
        exact k
      obtain ⟨cq453, kq453, q453a, q453b, q453c⟩ := isOf hZ e439 Q440
      obtain ⟨_, _, ⟨T453, L453, k453, n453⟩, -, X453, ⟨Lc453, hQ453, l453, y453, z453⟩, st453⟩ := X439.virtualBack hx (y := (⟨"com/example/axiomwright/axiomwright/Arcs", "addAll", "(Lcom/example/axiomwright/axiomwright/Arcs;)V"⟩ : MethodName)) (z := (⟨"com/example/axiomwright/axiomwright/Arcs", "addAll", "(Lcom/example/axiomwright/axiomwright/Arcs;)V"⟩ : MethodName)) hown (mvT hZ (hw _ (List.mem_of_getElem? (i := 14) rfl))) (mvT hZ (hw _ (List.mem_of_getElem? (i := 15) rfl))) (notFace_of_selects (args := #[]) (mvT hZ (hw _ (List.mem_of_getElem? (i := 17) rfl)))) (mvT hZ (hw _ (List.mem_of_getElem? (i := 17) rfl))) (mvT hZ (hw _ (List.mem_of_getElem? (i := 16) rfl))) (by decide) (backOf (W := 0) (rm3_0_2 l Z a0 hw [] b348 b355 b1_351 b2_351 b1_364 b2_364 k1_351 k2_351 k1_364 k2_364 (0 : Int32) (0 : Int32) (0 : Int32) (0 : Int32) (0 : Int32) (0 : Int32) (0 : Int32) (0 : Int32) (0 : Int32) (0 : Int32) (0 : Int32) (0 : Int32) (0 : Int32) (0 : Int32) (0 : Int32) (0 : Int32) (0 : Int32) (0 : Int32) (0 : Int32) (0 : Int32) (0 : Int32) (0 : Int32) (0 : Int32) (0 : Int32) (0 : Int32) (0 : Int32) (0 : Int32) (0 : Int32) (0 : Int32) (0 : Int32) (0 : Int32) (0 : Int32) p4 p6 (0 : Int32) (0 : Int32) (0 : Int32) (0 : Int32) (0 : Int32) (0 : Int32) (0 : Int32) (0 : Int32) (0 : Int32) (0 : Int32) (0 : Int32) (0 : Int32) (0 : Int32) (0 : Int32) p5 p2 (0 : Int32) (0 : Int32) (0 : Int32) (0 : Int32) (0 : Int32) (0 : Int32) (0 : Int32) (0 : Int32) (0 : Int32) (0 : Int32) (0 : Int32) (0 : Int32) (0 : Int32) (0 : Int32) h439 n0 Z439 Q440 Q443 Q441 Q442 Q444 Q445 Q447 Q448 Q449 Q450 Q451 low348 low_b1_351 low_b2_351 ne_b348_b1_351 ne_b348_b2_351 pq351_0 (Ne.symm ne355_b348) (Ne.symm ne355_b1_351) (Ne.symm ne355_b2_351) (Ne.symm ne_b348_b1_364) (Ne.symm ne_b1_351_b1_364) (Ne.symm ne_b2_351_b1_364) (Ne.symm ne_b348_b2_364) (Ne.symm ne_b1_351_b2_364) (Ne.symm ne_b2_351_b2_364)) hZ (hw _ (List.mem_of_getElem? (i := 18) rfl)) (hw _ (List.mem_of_getElem? (i := 3) rfl)) (by decide) (by decide)) q453a q453c (g := (mkF m 144 #[.val (.int p1), .val (.int p2), .val (.int p3), .val (.int p4), .val (.int p5), .val (.int p6), .val (.int (0 : Int32)), .val (.int (2 : Int32)), .val (.ref b345), .val (.ref b346), .val (.ref b348), .val (.ref b355), .val (.int (2 : Int32))] [(.ref b355), (.ref b348)])) rfl (by rw [hml]; rfl) (Steps.refl _) (argsL := [(.ref b355)]) (rest := []) (lenOf pd_3 rfl) rfl (by show 2 * 0 + _ ≤ _; exact Nat.le_of_eq rfl) (hb hby at_144) (fun _ _ => ⟨rfl, e439, (by decide : 8 + 0 ≤ _), (by decide : 76 + 0 ≤ _)⟩)
      dsimp only [Pt.U, Pt.locs, Pt.cells, Pt.slots] at X453 l453 y453 z453 st453 hQ453
      subst l453 y453 z453
      obtain ⟨rfl, Nq453, Kq453, U453_0, U453_1, U453_2, U453_3, U453_4⟩ := hQ453
      have Q454 : Exa Z T453.heap b348 "com/example/axiomwright/axiomwright/Arcs" := Q440.keep Kq453
      have Q455 : Exa Z T453.heap b355 "com/example/axiomwright/axiomwright/Arcs" := Q446.keep Kq453
      have Q456 : Fld Z T453.heap b355 "com/example/axiomwright/axiomwright/Arcs" "size" "I" (.int (2 : Int32)) := Q447.keep Kq453 (ninS (Ne.symm ne355_b348) (ninS (Ne.symm ne355_b1_351) (ninS (Ne.symm ne355_b2_351) nin0)))
      have Q457 : Fld Z T453.heap b355 "com/example/axiomwright/axiomwright/Arcs" "from" "[I" (.ref b1_364) := Q448.keep Kq453 (ninS (Ne.symm ne355_b348) (ninS (Ne.symm ne355_b1_351) (ninS (Ne.symm ne355_b2_351) nin0)))
      have Q458 : Fld Z T453.heap b355 "com/example/axiomwright/axiomwright/Arcs" "to" "[I" (.ref b2_364) := Q449.keep Kq453 (ninS (Ne.symm ne355_b348) (ninS (Ne.symm ne355_b1_351) (ninS (Ne.symm ne355_b2_351) nin0)))
      have Q459 : Arv Z T453.heap b1_364 k1_364 .int (16 : Int32) [(.int p4), (.int p6), (.int (0 : Int32)), (.int (0 : Int32)), (.int (0 : Int32)), (.int (0 : Int32)), (.int (0 : Int32)), (.int (0 : Int32)), (.int (0 : Int32)), (.int (0 : Int32)), (.int (0 : Int32)), (.int (0 : Int32)), (.int (0 : Int32)), (.int (0 : Int32)), (.int (0 : Int32)), (.int (0 : Int32))] (.int (0 : Int32)) := Q450.keep Kq453 (ninS (Ne.symm ne_b348_b1_364) (ninS (Ne.symm ne_b1_351_b1_364) (ninS (Ne.symm ne_b2_351_b1_364) nin0)))
      have Q460 : Arv Z T453.heap b2_364 k2_364 .int (16 : Int32) [(.int p5), (.int p2), (.int (0 : Int32)), (.int (0 : Int32)), (.int (0 : Int32)), (.int (0 : Int32)), (.int (0 : Int32)), (.int (0 : Int32)), (.int (0 : Int32)), (.int (0 : Int32)), (.int (0 : Int32)), (.int (0 : Int32)), (.int (0 : Int32)), (.int (0 : Int32)), (.int (0 : Int32)), (.int (0 : Int32))] (.int (0 : Int32)) := Q451.keep Kq453 (ninS (Ne.symm ne_b348_b2_364) (ninS (Ne.symm ne_b1_351_b2_364) (ninS (Ne.symm ne_b2_351_b2_364) nin0)))
      have Q461 : Arv Z T453.heap b345 k345 .int (3 : Int32) [(.int p4), (.int p6), (.int (0 : Int32))] (.int (0 : Int32)) := Q452.keep Kq453 (ninS ne348_b345 (ninS ne_b345_b1_351 (ninS ne_b345_b2_351 nin0)))
      have Q462 : Arv Z T453.heap b346 k346 .int (3 : Int32) [(.int p5), (.int p2), (.int (0 : Int32))] (.int (0 : Int32)) := U439.keep Kq453 (ninS ne348_b346 (ninS ne_b346_b1_351 (ninS ne_b346_b2_351 nin0)))
      have Z453 : n0 ≤ T453.heap.size := Nat.le_trans Z439 Kq453.1
      have K453 : Keep h0 T453.heap [] := K439.trans Kq453 (allS (Or.inr sz348) (allS (Or.inr sz_b1_351) (allS (Or.inr sz_b2_351) all0)))
      have N453 := Fr.app N439 Nq453
      refine own_go (A := _) (B := T453.setTop (mkF m 147 #[.val (.int p1), .val (.int p2), .val (.int p3), .val (.int p4), .val (.int p5), .val (.int p6), .val (.int (0 : Int32)), .val (.int (2 : Int32)), .val (.ref b345), .val (.ref b346), .val (.ref b348), .val (.ref b355), .val (.int (2 : Int32))] [])) (fun t k => st453.trans k) ?_
      refine own_go (A := T453.setTop (mkF m 147 #[.val (.int p1), .val (.int p2), .val (.int p3), .val (.int p4), .val (.int p5), .val (.int p6), .val (.int (0 : Int32)), .val (.int (2 : Int32)), .val (.ref b345), .val (.ref b346), .val (.ref b348), .val (.ref b355), .val (.int (2 : Int32))] [])) (B := T453.setTop (mkF m 149 #[.val (.int p1), .val (.int p2), .val (.int p3), .val (.int p4), .val (.int p5), .val (.int p6), .val (.int (0 : Int32)), .val (.int (2 : Int32)), .val (.ref b345), .val (.ref b346), .val (.ref b348), .val (.ref b355), .val (.int (2 : Int32))] [(.ref b348)])) (fun t k => ?_) ?_
      · show Steps p.tables e below (T453.setTop (mkF m 147 #[.val (.int p1), .val (.int p2), .val (.int p3), .val (.int p4), .val (.int p5), .val (.int p6), .val (.int (0 : Int32)), .val (.int (2 : Int32)), .val (.ref b345), .val (.ref b346), .val (.ref b348), .val (.ref b355), .val (.int (2 : Int32))] [])) _
        refine XS.aload X453.here hx rfl (hb hby at_147) rfl rfl ?_
        exact k
      obtain ⟨cq463, kq463, q463a, q463b, q463c⟩ := isOf hZ rfl Q454
      obtain ⟨_, _, ⟨T463, L463, k463, n463⟩, -, X463, ⟨Lc463, hQ463, l463, y463, z463⟩, st463⟩ := X453.virtualBack hx (y := (⟨"com/example/axiomwright/axiomwright/Arcs", "size", "()I"⟩ : MethodName)) (z := (⟨"com/example/axiomwright/axiomwright/Arcs", "size", "()I"⟩ : MethodName)) hown (mvT hZ (hw _ (List.mem_of_getElem? (i := 21) rfl))) (mvT hZ (hw _ (List.mem_of_getElem? (i := 22) rfl))) (notFace_of_selects (args := #[]) (mvT hZ (hw _ (List.mem_of_getElem? (i := 24) rfl)))) (mvT hZ (hw _ (List.mem_of_getElem? (i := 24) rfl))) (mvT hZ (hw _ (List.mem_of_getElem? (i := 23) rfl))) (by decide) (backOf (W := 0) (rm4 l Z a0 hw [] b348 (2 : Int32) T453.heap n0 Z453 U453_0) hZ (hw _ (List.mem_of_getElem? (i := 25) rfl)) (hw _ (List.mem_of_getElem? (i := 3) rfl)) (by decide) (by decide)) q463a q463c (g := (mkF m 149 #[.val (.int p1), .val (.int p2), .val (.int p3), .val (.int p4), .val (.int p5), .val (.int p6), .val (.int (0 : Int32)), .val (.int (2 : Int32)), .val (.ref b345), .val (.ref b346), .val (.ref b348), .val (.ref b355), .val (.int (2 : Int32))] [(.ref b348)])) rfl (by rw [hml]; rfl) (Steps.refl _) (argsL := []) (rest := []) (lenOf pd_4 rfl) rfl (by show 2 * 0 + _ ≤ _; exact Nat.le_of_eq rfl) (hb hby at_149) (fun _ _ => ⟨rfl, rfl, (by decide : 8 + 0 ≤ _), (by decide : 76 + 0 ≤ _)⟩)
      dsimp only [Pt.U, Pt.locs, Pt.cells, Pt.slots] at X463 l463 y463 z463 st463 hQ463
      subst l463 y463 z463
      obtain ⟨rfl, Nq463, e463⟩ := hQ463
      have N463 := Fr.app N453 Nq463
      refine own_go (A := _) (B := T463.setTop (mkF m 152 #[.val (.int p1), .val (.int p2), .val (.int p3), .val (.int p4), .val (.int p5), .val (.int p6), .val (.int (0 : Int32)), .val (.int (2 : Int32)), .val (.ref b345), .val (.ref b346), .val (.ref b348), .val (.ref b355), .val (.int (2 : Int32))] [(.int (2 : Int32))])) (fun t k => st463.trans k) ?_
      refine own_go (A := T463.setTop (mkF m 152 #[.val (.int p1), .val (.int p2), .val (.int p3), .val (.int p4), .val (.int p5), .val (.int p6), .val (.int (0 : Int32)), .val (.int (2 : Int32)), .val (.ref b345), .val (.ref b346), .val (.ref b348), .val (.ref b355), .val (.int (2 : Int32))] [(.int (2 : Int32))])) (B := T463.setTop (mkF m 161 #[.val (.int p1), .val (.int p2), .val (.int p3), .val (.int p4), .val (.int p5), .val (.int p6), .val (.int (0 : Int32)), .val (.int (2 : Int32)), .val (.ref b345), .val (.ref b346), .val (.ref b348), .val (.ref b355), .val (.int (2 : Int32))] [(.ref b355)])) (fun t k => ?_) ?_
      · show Steps p.tables e below (T463.setTop (mkF m 152 #[.val (.int p1), .val (.int p2), .val (.int p3), .val (.int p4), .val (.int p5), .val (.int p6), .val (.int (0 : Int32)), .val (.int (2 : Int32)), .val (.ref b345), .val (.ref b346), .val (.ref b348), .val (.ref b355), .val (.int (2 : Int32))] [(.int (2 : Int32))])) _
        refine XS.iload X463.here hx rfl (hb hby at_152) rfl ?_
        show Steps p.tables e below (T463.setTop (mkF m 154 #[.val (.int p1), .val (.int p2), .val (.int p3), .val (.int p4), .val (.int p5), .val (.int p6), .val (.int (0 : Int32)), .val (.int (2 : Int32)), .val (.ref b345), .val (.ref b346), .val (.ref b348), .val (.ref b355), .val (.int (2 : Int32))] [(.int (2 : Int32)), (.int (2 : Int32))])) _
        refine XS.icmpYes X463.here hx rfl (pc0 := 154) (pc' := 159) rfl (hb hby at_154) rfl (teq (rfl : (2 : Int32) = (2 : Int32))).1 (by decide) (by decide) ?_
        show Steps p.tables e below (T463.setTop (mkF m 159 #[.val (.int p1), .val (.int p2), .val (.int p3), .val (.int p4), .val (.int p5), .val (.int p6), .val (.int (0 : Int32)), .val (.int (2 : Int32)), .val (.ref b345), .val (.ref b346), .val (.ref b348), .val (.ref b355), .val (.int (2 : Int32))] [])) _
        refine XS.aload X463.here hx rfl (hb hby at_159) rfl rfl ?_
        exact k
      obtain ⟨cq465, kq465, q465a, q465b, q465c⟩ := isOf hZ e463 Q455
      obtain ⟨_, _, ⟨T465, L465, k465, n465⟩, -, X465, ⟨Lc465, hQ465, l465, y465, z465⟩, st465⟩ := X463.virtualBack hx (y := (⟨"com/example/axiomwright/axiomwright/Arcs", "size", "()I"⟩ : MethodName)) (z := (⟨"com/example/axiomwright/axiomwright/Arcs", "size", "()I"⟩ : MethodName)) hown (mvT hZ (hw _ (List.mem_of_getElem? (i := 21) rfl))) (mvT hZ (hw _ (List.mem_of_getElem? (i := 22) rfl))) (notFace_of_selects (args := #[]) (mvT hZ (hw _ (List.mem_of_getElem? (i := 24) rfl)))) (mvT hZ (hw _ (List.mem_of_getElem? (i := 24) rfl))) (mvT hZ (hw _ (List.mem_of_getElem? (i := 23) rfl))) (by decide) (backOf (W := 0) (rm4 l Z a0 hw [] b355 (2 : Int32) T453.heap n0 Z453 Q456) hZ (hw _ (List.mem_of_getElem? (i := 25) rfl)) (hw _ (List.mem_of_getElem? (i := 3) rfl)) (by decide) (by decide)) q465a q465c (g := (mkF m 161 #[.val (.int p1), .val (.int p2), .val (.int p3), .val (.int p4), .val (.int p5), .val (.int p6), .val (.int (0 : Int32)), .val (.int (2 : Int32)), .val (.ref b345), .val (.ref b346), .val (.ref b348), .val (.ref b355), .val (.int (2 : Int32))] [(.ref b355)])) rfl (by rw [hml]; rfl) (Steps.refl _) (argsL := []) (rest := []) (lenOf pd_4 rfl) rfl (by show 2 * 0 + _ ≤ _; exact Nat.le_of_eq rfl) (hb hby at_161) (fun _ _ => ⟨rfl, e463, (by decide : 8 + 0 ≤ _), (by decide : 76 + 0 ≤ _)⟩)
      dsimp only [Pt.U, Pt.locs, Pt.cells, Pt.slots] at X465 l465 y465 z465 st465 hQ465
      subst l465 y465 z465
      obtain ⟨rfl, Nq465, e465⟩ := hQ465
      have N465 := Fr.app N463 Nq465
      refine own_go (A := _) (B := T465.setTop (mkF m 164 #[.val (.int p1), .val (.int p2), .val (.int p3), .val (.int p4), .val (.int p5), .val (.int p6), .val (.int (0 : Int32)), .val (.int (2 : Int32)), .val (.ref b345), .val (.ref b346), .val (.ref b348), .val (.ref b355), .val (.int (2 : Int32))] [(.int (2 : Int32))])) (fun t k => st465.trans k) ?_
      refine own_go (A := T465.setTop (mkF m 164 #[.val (.int p1), .val (.int p2), .val (.int p3), .val (.int p4), .val (.int p5), .val (.int p6), .val (.int (0 : Int32)), .val (.int (2 : Int32)), .val (.ref b345), .val (.ref b346), .val (.ref b348), .val (.ref b355), .val (.int (2 : Int32))] [(.int (2 : Int32))])) (B := T465.setTop (mkF m 180 #[.val (.int p1), .val (.int p2), .val (.int p3), .val (.int p4), .val (.int p5), .val (.int p6), .val (.int (0 : Int32)), .val (.int (2 : Int32)), .val (.ref b345), .val (.ref b346), .val (.ref b348), .val (.ref b355), .val (.int (2 : Int32))] [(.ref b346), (.ref b345), (.int (2 : Int32)), (.int (0 : Int32)), (.ref b348)])) (fun t k => ?_) ?_
      · show Steps p.tables e below (T465.setTop (mkF m 164 #[.val (.int p1), .val (.int p2), .val (.int p3), .val (.int p4), .val (.int p5), .val (.int p6), .val (.int (0 : Int32)), .val (.int (2 : Int32)), .val (.ref b345), .val (.ref b346), .val (.ref b348), .val (.ref b355), .val (.int (2 : Int32))] [(.int (2 : Int32))])) _
        refine XS.iload X465.here hx rfl (hb hby at_164) rfl ?_
        show Steps p.tables e below (T465.setTop (mkF m 166 #[.val (.int p1), .val (.int p2), .val (.int p3), .val (.int p4), .val (.int p5), .val (.int p6), .val (.int (0 : Int32)), .val (.int (2 : Int32)), .val (.ref b345), .val (.ref b346), .val (.ref b348), .val (.ref b355), .val (.int (2 : Int32))] [(.int (2 : Int32)), (.int (2 : Int32))])) _
        refine XS.icmpYes X465.here hx rfl (pc0 := 166) (pc' := 171) rfl (hb hby at_166) rfl (teq (rfl : (2 : Int32) = (2 : Int32))).1 (by decide) (by decide) ?_
        show Steps p.tables e below (T465.setTop (mkF m 171 #[.val (.int p1), .val (.int p2), .val (.int p3), .val (.int p4), .val (.int p5), .val (.int p6), .val (.int (0 : Int32)), .val (.int (2 : Int32)), .val (.ref b345), .val (.ref b346), .val (.ref b348), .val (.ref b355), .val (.int (2 : Int32))] [])) _
        refine XS.aload X465.here hx rfl (hb hby at_171) rfl rfl ?_
        show Steps p.tables e below (T465.setTop (mkF m 173 #[.val (.int p1), .val (.int p2), .val (.int p3), .val (.int p4), .val (.int p5), .val (.int p6), .val (.int (0 : Int32)), .val (.int (2 : Int32)), .val (.ref b345), .val (.ref b346), .val (.ref b348), .val (.ref b355), .val (.int (2 : Int32))] [(.ref b348)])) _
        refine XS.iconst X465.here hx rfl (hb hby at_173) ?_
        show Steps p.tables e below (T465.setTop (mkF m 174 #[.val (.int p1), .val (.int p2), .val (.int p3), .val (.int p4), .val (.int p5), .val (.int p6), .val (.int (0 : Int32)), .val (.int (2 : Int32)), .val (.ref b345), .val (.ref b346), .val (.ref b348), .val (.ref b355), .val (.int (2 : Int32))] [(.int (0 : Int32)), (.ref b348)])) _
        refine XS.iload X465.here hx rfl (hb hby at_174) rfl ?_
        show Steps p.tables e below (T465.setTop (mkF m 176 #[.val (.int p1), .val (.int p2), .val (.int p3), .val (.int p4), .val (.int p5), .val (.int p6), .val (.int (0 : Int32)), .val (.int (2 : Int32)), .val (.ref b345), .val (.ref b346), .val (.ref b348), .val (.ref b355), .val (.int (2 : Int32))] [(.int (2 : Int32)), (.int (0 : Int32)), (.ref b348)])) _
        refine XS.aload X465.here hx rfl (hb hby at_176) rfl rfl ?_
        show Steps p.tables e below (T465.setTop (mkF m 178 #[.val (.int p1), .val (.int p2), .val (.int p3), .val (.int p4), .val (.int p5), .val (.int p6), .val (.int (0 : Int32)), .val (.int (2 : Int32)), .val (.ref b345), .val (.ref b346), .val (.ref b348), .val (.ref b355), .val (.int (2 : Int32))] [(.ref b345), (.int (2 : Int32)), (.int (0 : Int32)), (.ref b348)])) _
        refine XS.aload X465.here hx rfl (hb hby at_178) rfl rfl ?_
        exact k
      obtain ⟨_, _, ⟨T467, L467, k467, n467⟩, -, X467, ⟨Lc467, hQ467, l467, y467, z467⟩, st467⟩ := Jvm.LawKit.callS X465 hx (y := (⟨"com/example/axiomwright/axiomwright/ArcsAddAllPinLaw", "at", "(Lcom/example/axiomwright/axiomwright/Arcs;II[I[I)Z"⟩ : MethodName)) hown (mvT hZ (hw _ (List.mem_of_getElem? (i := 26) rfl))) (mvT hZ (hw _ (List.mem_of_getElem? (i := 27) rfl))) (mvT hZ (hw _ (List.mem_of_getElem? (i := 28) rfl))) (mvT hZ (hw _ (List.mem_of_getElem? (i := 29) rfl))) (by decide) (backOf (W := 0) (rm5_0_2 l Z a0 hw [] b348 b345 b346 b1_351 b2_351 k1_351 k2_351 k345 k346 p4 p6 (0 : Int32) (0 : Int32) (0 : Int32) (0 : Int32) (0 : Int32) (0 : Int32) (0 : Int32) (0 : Int32) (0 : Int32) (0 : Int32) (0 : Int32) (0 : Int32) (0 : Int32) (0 : Int32) p5 p2 (0 : Int32) (0 : Int32) (0 : Int32) (0 : Int32) (0 : Int32) (0 : Int32) (0 : Int32) (0 : Int32) (0 : Int32) (0 : Int32) (0 : Int32) (0 : Int32) (0 : Int32) (0 : Int32) p4 p6 (0 : Int32) p5 p2 (0 : Int32) T453.heap n0 Z453 Q454 U453_1 U453_2 U453_3 U453_4 Q461 Q462) hZ (hw _ (List.mem_of_getElem? (i := 29) rfl)) (hw _ (List.mem_of_getElem? (i := 28) rfl)) (by decide) (by decide)) (g := (mkF m 180 #[.val (.int p1), .val (.int p2), .val (.int p3), .val (.int p4), .val (.int p5), .val (.int p6), .val (.int (0 : Int32)), .val (.int (2 : Int32)), .val (.ref b345), .val (.ref b346), .val (.ref b348), .val (.ref b355), .val (.int (2 : Int32))] [(.ref b346), (.ref b345), (.int (2 : Int32)), (.int (0 : Int32)), (.ref b348)])) rfl (by rw [hml]; rfl) (argsL := [(.ref b348), (.int (0 : Int32)), (.int (2 : Int32)), (.ref b345), (.ref b346)]) (rest := []) (lenOf pd_5 rfl) rfl (by show 2 * 0 + _ ≤ _; exact Nat.le_of_eq rfl) (hb hby at_180) (fun _ _ => ⟨rfl, e465, (by decide : 8 + 0 ≤ _), (by decide : 76 + 0 ≤ _)⟩)
      dsimp only [Pt.U, Pt.locs, Pt.cells, Pt.slots] at X467 l467 y467 z467 st467 hQ467
      subst l467 y467 z467
      obtain ⟨rfl, Nq467, e467⟩ := hQ467
      have N467 := Fr.app N465 Nq467
      refine own_go (A := _) (B := T467.setTop (mkF m 183 #[.val (.int p1), .val (.int p2), .val (.int p3), .val (.int p4), .val (.int p5), .val (.int p6), .val (.int (0 : Int32)), .val (.int (2 : Int32)), .val (.ref b345), .val (.ref b346), .val (.ref b348), .val (.ref b355), .val (.int (2 : Int32))] [(.int (frm5_0_2 p4 p5 p4 p5))])) st467 ?_
      have hc183_468 : ¬ ((frm5_0_2 p4 p5 p4 p5) = (0 : Int32)) := by simp [frm5_0_2]
      refine own_go (A := T467.setTop (mkF m 183 #[.val (.int p1), .val (.int p2), .val (.int p3), .val (.int p4), .val (.int p5), .val (.int p6), .val (.int (0 : Int32)), .val (.int (2 : Int32)), .val (.ref b345), .val (.ref b346), .val (.ref b348), .val (.ref b355), .val (.int (2 : Int32))] [(.int (frm5_0_2 p4 p5 p4 p5))])) (B := T467.setTop (mkF m 195 #[.val (.int p1), .val (.int p2), .val (.int p3), .val (.int p4), .val (.int p5), .val (.int p6), .val (.int (0 : Int32)), .val (.int (2 : Int32)), .val (.ref b345), .val (.ref b346), .val (.ref b348), .val (.ref b355), .val (.int (2 : Int32))] [(.ref b346), (.ref b345), (.int (2 : Int32)), (.int (1 : Int32)), (.ref b348)])) (fun t k => ?_) ?_
      · show Steps p.tables e below (T467.setTop (mkF m 183 #[.val (.int p1), .val (.int p2), .val (.int p3), .val (.int p4), .val (.int p5), .val (.int p6), .val (.int (0 : Int32)), .val (.int (2 : Int32)), .val (.ref b345), .val (.ref b346), .val (.ref b348), .val (.ref b355), .val (.int (2 : Int32))] [(.int (frm5_0_2 p4 p5 p4 p5))])) _
        refine XS.ifNo X467.here hx rfl (hb hby at_183) rfl ((if0 _ _).trans (feq hc183_468).1) ?_
        show Steps p.tables e below (T467.setTop (mkF m 186 #[.val (.int p1), .val (.int p2), .val (.int p3), .val (.int p4), .val (.int p5), .val (.int p6), .val (.int (0 : Int32)), .val (.int (2 : Int32)), .val (.ref b345), .val (.ref b346), .val (.ref b348), .val (.ref b355), .val (.int (2 : Int32))] [])) _
        refine XS.aload X467.here hx rfl (hb hby at_186) rfl rfl ?_
        show Steps p.tables e below (T467.setTop (mkF m 188 #[.val (.int p1), .val (.int p2), .val (.int p3), .val (.int p4), .val (.int p5), .val (.int p6), .val (.int (0 : Int32)), .val (.int (2 : Int32)), .val (.ref b345), .val (.ref b346), .val (.ref b348), .val (.ref b355), .val (.int (2 : Int32))] [(.ref b348)])) _
        refine XS.iconst X467.here hx rfl (hb hby at_188) ?_
        show Steps p.tables e below (T467.setTop (mkF m 189 #[.val (.int p1), .val (.int p2), .val (.int p3), .val (.int p4), .val (.int p5), .val (.int p6), .val (.int (0 : Int32)), .val (.int (2 : Int32)), .val (.ref b345), .val (.ref b346), .val (.ref b348), .val (.ref b355), .val (.int (2 : Int32))] [(.int (1 : Int32)), (.ref b348)])) _
        refine XS.iload X467.here hx rfl (hb hby at_189) rfl ?_
        show Steps p.tables e below (T467.setTop (mkF m 191 #[.val (.int p1), .val (.int p2), .val (.int p3), .val (.int p4), .val (.int p5), .val (.int p6), .val (.int (0 : Int32)), .val (.int (2 : Int32)), .val (.ref b345), .val (.ref b346), .val (.ref b348), .val (.ref b355), .val (.int (2 : Int32))] [(.int (2 : Int32)), (.int (1 : Int32)), (.ref b348)])) _
        refine XS.aload X467.here hx rfl (hb hby at_191) rfl rfl ?_
        show Steps p.tables e below (T467.setTop (mkF m 193 #[.val (.int p1), .val (.int p2), .val (.int p3), .val (.int p4), .val (.int p5), .val (.int p6), .val (.int (0 : Int32)), .val (.int (2 : Int32)), .val (.ref b345), .val (.ref b346), .val (.ref b348), .val (.ref b355), .val (.int (2 : Int32))] [(.ref b345), (.int (2 : Int32)), (.int (1 : Int32)), (.ref b348)])) _
        refine XS.aload X467.here hx rfl (hb hby at_193) rfl rfl ?_
        exact k
      obtain ⟨_, _, ⟨T469, L469, k469, n469⟩, -, X469, ⟨Lc469, hQ469, l469, y469, z469⟩, st469⟩ := Jvm.LawKit.callS X467 hx (y := (⟨"com/example/axiomwright/axiomwright/ArcsAddAllPinLaw", "at", "(Lcom/example/axiomwright/axiomwright/Arcs;II[I[I)Z"⟩ : MethodName)) hown (mvT hZ (hw _ (List.mem_of_getElem? (i := 26) rfl))) (mvT hZ (hw _ (List.mem_of_getElem? (i := 27) rfl))) (mvT hZ (hw _ (List.mem_of_getElem? (i := 28) rfl))) (mvT hZ (hw _ (List.mem_of_getElem? (i := 29) rfl))) (by decide) (backOf (W := 0) (rm5_1_2 l Z a0 hw [] b348 b345 b346 b1_351 b2_351 k1_351 k2_351 k345 k346 p4 p6 (0 : Int32) (0 : Int32) (0 : Int32) (0 : Int32) (0 : Int32) (0 : Int32) (0 : Int32) (0 : Int32) (0 : Int32) (0 : Int32) (0 : Int32) (0 : Int32) (0 : Int32) (0 : Int32) p5 p2 (0 : Int32) (0 : Int32) (0 : Int32) (0 : Int32) (0 : Int32) (0 : Int32) (0 : Int32) (0 : Int32) (0 : Int32) (0 : Int32) (0 : Int32) (0 : Int32) (0 : Int32) (0 : Int32) p4 p6 (0 : Int32) p5 p2 (0 : Int32) T453.heap n0 Z453 Q454 U453_1 U453_2 U453_3 U453_4 Q461 Q462) hZ (hw _ (List.mem_of_getElem? (i := 29) rfl)) (hw _ (List.mem_of_getElem? (i := 28) rfl)) (by decide) (by decide)) (g := (mkF m 195 #[.val (.int p1), .val (.int p2), .val (.int p3), .val (.int p4), .val (.int p5), .val (.int p6), .val (.int (0 : Int32)), .val (.int (2 : Int32)), .val (.ref b345), .val (.ref b346), .val (.ref b348), .val (.ref b355), .val (.int (2 : Int32))] [(.ref b346), (.ref b345), (.int (2 : Int32)), (.int (1 : Int32)), (.ref b348)])) rfl (by rw [hml]; rfl) (argsL := [(.ref b348), (.int (1 : Int32)), (.int (2 : Int32)), (.ref b345), (.ref b346)]) (rest := []) (lenOf pd_5 rfl) rfl (by show 2 * 0 + _ ≤ _; exact Nat.le_of_eq rfl) (hb hby at_195) (fun _ _ => ⟨rfl, e467, (by decide : 8 + 0 ≤ _), (by decide : 76 + 0 ≤ _)⟩)
      dsimp only [Pt.U, Pt.locs, Pt.cells, Pt.slots] at X469 l469 y469 z469 st469 hQ469
      subst l469 y469 z469
      obtain ⟨rfl, Nq469, e469⟩ := hQ469
      have N469 := Fr.app N467 Nq469
      refine own_go (A := _) (B := T469.setTop (mkF m 198 #[.val (.int p1), .val (.int p2), .val (.int p3), .val (.int p4), .val (.int p5), .val (.int p6), .val (.int (0 : Int32)), .val (.int (2 : Int32)), .val (.ref b345), .val (.ref b346), .val (.ref b348), .val (.ref b355), .val (.int (2 : Int32))] [(.int (frm5_1_2 p6 p2 p6 p2))])) st469 ?_
      have hc198_470 : ¬ ((frm5_1_2 p6 p2 p6 p2) = (0 : Int32)) := by simp [frm5_1_2]
      refine own_go (A := T469.setTop (mkF m 198 #[.val (.int p1), .val (.int p2), .val (.int p3), .val (.int p4), .val (.int p5), .val (.int p6), .val (.int (0 : Int32)), .val (.int (2 : Int32)), .val (.ref b345), .val (.ref b346), .val (.ref b348), .val (.ref b355), .val (.int (2 : Int32))] [(.int (frm5_1_2 p6 p2 p6 p2))])) (B := T469.setTop (mkF m 210 #[.val (.int p1), .val (.int p2), .val (.int p3), .val (.int p4), .val (.int p5), .val (.int p6), .val (.int (0 : Int32)), .val (.int (2 : Int32)), .val (.ref b345), .val (.ref b346), .val (.ref b348), .val (.ref b355), .val (.int (2 : Int32))] [(.ref b346), (.ref b345), (.int (2 : Int32)), (.int (2 : Int32)), (.ref b348)])) (fun t k => ?_) ?_
      · show Steps p.tables e below (T469.setTop (mkF m 198 #[.val (.int p1), .val (.int p2), .val (.int p3), .val (.int p4), .val (.int p5), .val (.int p6), .val (.int (0 : Int32)), .val (.int (2 : Int32)), .val (.ref b345), .val (.ref b346), .val (.ref b348), .val (.ref b355), .val (.int (2 : Int32))] [(.int (frm5_1_2 p6 p2 p6 p2))])) _
        refine XS.ifNo X469.here hx rfl (hb hby at_198) rfl ((if0 _ _).trans (feq hc198_470).1) ?_
        show Steps p.tables e below (T469.setTop (mkF m 201 #[.val (.int p1), .val (.int p2), .val (.int p3), .val (.int p4), .val (.int p5), .val (.int p6), .val (.int (0 : Int32)), .val (.int (2 : Int32)), .val (.ref b345), .val (.ref b346), .val (.ref b348), .val (.ref b355), .val (.int (2 : Int32))] [])) _
        refine XS.aload X469.here hx rfl (hb hby at_201) rfl rfl ?_
        show Steps p.tables e below (T469.setTop (mkF m 203 #[.val (.int p1), .val (.int p2), .val (.int p3), .val (.int p4), .val (.int p5), .val (.int p6), .val (.int (0 : Int32)), .val (.int (2 : Int32)), .val (.ref b345), .val (.ref b346), .val (.ref b348), .val (.ref b355), .val (.int (2 : Int32))] [(.ref b348)])) _
        refine XS.iconst X469.here hx rfl (hb hby at_203) ?_
        show Steps p.tables e below (T469.setTop (mkF m 204 #[.val (.int p1), .val (.int p2), .val (.int p3), .val (.int p4), .val (.int p5), .val (.int p6), .val (.int (0 : Int32)), .val (.int (2 : Int32)), .val (.ref b345), .val (.ref b346), .val (.ref b348), .val (.ref b355), .val (.int (2 : Int32))] [(.int (2 : Int32)), (.ref b348)])) _
        refine XS.iload X469.here hx rfl (hb hby at_204) rfl ?_
        show Steps p.tables e below (T469.setTop (mkF m 206 #[.val (.int p1), .val (.int p2), .val (.int p3), .val (.int p4), .val (.int p5), .val (.int p6), .val (.int (0 : Int32)), .val (.int (2 : Int32)), .val (.ref b345), .val (.ref b346), .val (.ref b348), .val (.ref b355), .val (.int (2 : Int32))] [(.int (2 : Int32)), (.int (2 : Int32)), (.ref b348)])) _
        refine XS.aload X469.here hx rfl (hb hby at_206) rfl rfl ?_
        show Steps p.tables e below (T469.setTop (mkF m 208 #[.val (.int p1), .val (.int p2), .val (.int p3), .val (.int p4), .val (.int p5), .val (.int p6), .val (.int (0 : Int32)), .val (.int (2 : Int32)), .val (.ref b345), .val (.ref b346), .val (.ref b348), .val (.ref b355), .val (.int (2 : Int32))] [(.ref b345), (.int (2 : Int32)), (.int (2 : Int32)), (.ref b348)])) _
        refine XS.aload X469.here hx rfl (hb hby at_208) rfl rfl ?_
        exact k
      obtain ⟨_, _, ⟨T471, L471, k471, n471⟩, -, X471, ⟨Lc471, hQ471, l471, y471, z471⟩, st471⟩ := Jvm.LawKit.callS X469 hx (y := (⟨"com/example/axiomwright/axiomwright/ArcsAddAllPinLaw", "at", "(Lcom/example/axiomwright/axiomwright/Arcs;II[I[I)Z"⟩ : MethodName)) hown (mvT hZ (hw _ (List.mem_of_getElem? (i := 26) rfl))) (mvT hZ (hw _ (List.mem_of_getElem? (i := 27) rfl))) (mvT hZ (hw _ (List.mem_of_getElem? (i := 28) rfl))) (mvT hZ (hw _ (List.mem_of_getElem? (i := 29) rfl))) (by decide) (backOf (W := 0) (rm5_2_2 l Z a0 hw [] b348 b345 b346 T453.heap n0 Z453 ) hZ (hw _ (List.mem_of_getElem? (i := 29) rfl)) (hw _ (List.mem_of_getElem? (i := 28) rfl)) (by decide) (by decide)) (g := (mkF m 210 #[.val (.int p1), .val (.int p2), .val (.int p3), .val (.int p4), .val (.int p5), .val (.int p6), .val (.int (0 : Int32)), .val (.int (2 : Int32)), .val (.ref b345), .val (.ref b346), .val (.ref b348), .val (.ref b355), .val (.int (2 : Int32))] [(.ref b346), (.ref b345), (.int (2 : Int32)), (.int (2 : Int32)), (.ref b348)])) rfl (by rw [hml]; rfl) (argsL := [(.ref b348), (.int (2 : Int32)), (.int (2 : Int32)), (.ref b345), (.ref b346)]) (rest := []) (lenOf pd_5 rfl) rfl (by show 2 * 0 + _ ≤ _; exact Nat.le_of_eq rfl) (hb hby at_210) (fun _ _ => ⟨rfl, e469, (by decide : 8 + 0 ≤ _), (by decide : 76 + 0 ≤ _)⟩)
      dsimp only [Pt.U, Pt.locs, Pt.cells, Pt.slots] at X471 l471 y471 z471 st471 hQ471
      subst l471 y471 z471
      obtain ⟨rfl, Nq471, e471⟩ := hQ471
      have N471 := Fr.app N469 Nq471
      refine own_go (A := _) (B := T471.setTop (mkF m 213 #[.val (.int p1), .val (.int p2), .val (.int p3), .val (.int p4), .val (.int p5), .val (.int p6), .val (.int (0 : Int32)), .val (.int (2 : Int32)), .val (.ref b345), .val (.ref b346), .val (.ref b348), .val (.ref b355), .val (.int (2 : Int32))] [(.int (1 : Int32))])) st471 ?_
      refine own_go (A := T471.setTop (mkF m 213 #[.val (.int p1), .val (.int p2), .val (.int p3), .val (.int p4), .val (.int p5), .val (.int p6), .val (.int (0 : Int32)), .val (.int (2 : Int32)), .val (.ref b345), .val (.ref b346), .val (.ref b348), .val (.ref b355), .val (.int (2 : Int32))] [(.int (1 : Int32))])) (B := T471.setTop (mkF m 221 #[.val (.int p1), .val (.int p2), .val (.int p3), .val (.int p4), .val (.int p5), .val (.int p6), .val (.int (0 : Int32)), .val (.int (2 : Int32)), .val (.ref b345), .val (.ref b346), .val (.ref b348), .val (.ref b355), .val (.int (2 : Int32))] [(.int (1 : Int32))])) (fun t k => ?_) ?_
      · show Steps p.tables e below (T471.setTop (mkF m 213 #[.val (.int p1), .val (.int p2), .val (.int p3), .val (.int p4), .val (.int p5), .val (.int p6), .val (.int (0 : Int32)), .val (.int (2 : Int32)), .val (.ref b345), .val (.ref b346), .val (.ref b348), .val (.ref b355), .val (.int (2 : Int32))] [(.int (1 : Int32))])) _
        refine XS.ifNo X471.here hx rfl (hb hby at_213) rfl ((if0 _ _).trans (feq (by decide : ¬ ((1 : Int32) = (0 : Int32)))).1) ?_
        show Steps p.tables e below (T471.setTop (mkF m 216 #[.val (.int p1), .val (.int p2), .val (.int p3), .val (.int p4), .val (.int p5), .val (.int p6), .val (.int (0 : Int32)), .val (.int (2 : Int32)), .val (.ref b345), .val (.ref b346), .val (.ref b348), .val (.ref b355), .val (.int (2 : Int32))] [])) _
        refine XS.iconst X471.here hx rfl (hb hby at_216) ?_
        show Steps p.tables e below (T471.setTop (mkF m 217 #[.val (.int p1), .val (.int p2), .val (.int p3), .val (.int p4), .val (.int p5), .val (.int p6), .val (.int (0 : Int32)), .val (.int (2 : Int32)), .val (.ref b345), .val (.ref b346), .val (.ref b348), .val (.ref b355), .val (.int (2 : Int32))] [(.int (1 : Int32))])) _
        refine XS.goto X471.here hx rfl (pc0 := 217) (pc' := 221) rfl (hb hby at_217) (by decide) (by decide) ?_
        exact k
      obtain ⟨fs, hr, hrun, hended, hW, hsame⟩ := X471.leave (v := some (.int (1 : Int32))) (fun h => by rw [Bd.returns] at h; cases h)
      refine ⟨_, _, ?_, hrun, hended, _, _, rfl, ?_, ⟨_, rfl⟩, hW, hsame.mono (by decide) (by decide)⟩
      · show Steps p.tables e below (T471.setTop (mkF m 221 #[.val (.int p1), .val (.int p2), .val (.int p3), .val (.int p4), .val (.int p5), .val (.int p6), .val (.int (0 : Int32)), .val (.int (2 : Int32)), .val (.ref b345), .val (.ref b346), .val (.ref b348), .val (.ref b355), .val (.int (2 : Int32))] [(.int (1 : Int32))])) _
        exact retN X471 hx (t := .boolean) Bd.returns (by simp) (hb hby at_221) hr
      · show Qrm0 Z p1 p2 p3 p4 p5 p6 h0 n0 _ T471.heap _
        rw [e471]
        exact ⟨rfl, N471⟩
  · refine own_go (A := s₁.setTop (mkF m 3 #[.val (.int p1), .val (.int p2), .val (.int p3), .val (.int p4), .val (.int p5), .val (.int p6), .unset, .unset, .unset, .unset, .unset, .unset, .unset] [(.int (p1 &&& (1 : Int32)))])) (B := s₁.setTop (mkF m 6 #[.val (.int p1), .val (.int p2), .val (.int p3), .val (.int p4), .val (.int p5), .val (.int p6), .unset, .unset, .unset, .unset, .unset, .unset, .unset] [])) (fun t k => ?_) ?_
    · show Steps p.tables e below (s₁.setTop (mkF m 3 #[.val (.int p1), .val (.int p2), .val (.int p3), .val (.int p4), .val (.int p5), .val (.int p6), .unset, .unset, .unset, .unset, .unset, .unset, .unset] [(.int (p1 &&& (1 : Int32)))])) _
      refine XS.ifNo X0.here hx rfl (hb hby at_3) rfl ((if0 _ _).trans (feq hc3_201).1) ?_
      exact k
    refine own_go (A := s₁.setTop (mkF m 6 #[.val (.int p1), .val (.int p2), .val (.int p3), .val (.int p4), .val (.int p5), .val (.int p6), .unset, .unset, .unset, .unset, .unset, .unset, .unset] [])) (B := s₁.setTop (mkF m 20 #[.val (.int p1), .val (.int p2), .val (.int p3), .val (.int p4), .val (.int p5), .val (.int p6), .val (.int (1 : Int32)), .unset, .unset, .unset, .unset, .unset, .unset] [(.int ((((p1.toUInt32 >>> ((1 : Int32) &&& 31).toUInt32).toInt32) &&& (3 : Int32)) % (3 : Int32)))])) (fun t k => ?_) ?_
    · show Steps p.tables e below (s₁.setTop (mkF m 6 #[.val (.int p1), .val (.int p2), .val (.int p3), .val (.int p4), .val (.int p5), .val (.int p6), .unset, .unset, .unset, .unset, .unset, .unset, .unset] [])) _
      refine XS.iconst X0.here hx rfl (hb hby at_6) ?_
      show Steps p.tables e below (s₁.setTop (mkF m 7 #[.val (.int p1), .val (.int p2), .val (.int p3), .val (.int p4), .val (.int p5), .val (.int p6), .unset, .unset, .unset, .unset, .unset, .unset, .unset] [(.int (1 : Int32))])) _
      refine XS.goto X0.here hx rfl (pc0 := 7) (pc' := 11) rfl (hb hby at_7) (by decide) (by decide) ?_
      show Steps p.tables e below (s₁.setTop (mkF m 11 #[.val (.int p1), .val (.int p2), .val (.int p3), .val (.int p4), .val (.int p5), .val (.int p6), .unset, .unset, .unset, .unset, .unset, .unset, .unset] [(.int (1 : Int32))])) _
      refine XS.istore X0.here hx rfl (hb hby at_11) rfl (l' := #[.val (.int p1), .val (.int p2), .val (.int p3), .val (.int p4), .val (.int p5), .val (.int p6), .val (.int (1 : Int32)), .unset, .unset, .unset, .unset, .unset, .unset]) rfl ?_
      show Steps p.tables e below (s₁.setTop (mkF m 13 #[.val (.int p1), .val (.int p2), .val (.int p3), .val (.int p4), .val (.int p5), .val (.int p6), .val (.int (1 : Int32)), .unset, .unset, .unset, .unset, .unset, .unset] [])) _
      refine XS.iloadN X0.here hx rfl (hb hby at_13) rfl ?_
      show Steps p.tables e below (s₁.setTop (mkF m 14 #[.val (.int p1), .val (.int p2), .val (.int p3), .val (.int p4), .val (.int p5), .val (.int p6), .val (.int (1 : Int32)), .unset, .unset, .unset, .unset, .unset, .unset] [(.int p1)])) _
      refine XS.iconst X0.here hx rfl (hb hby at_14) ?_
      show Steps p.tables e below (s₁.setTop (mkF m 15 #[.val (.int p1), .val (.int p2), .val (.int p3), .val (.int p4), .val (.int p5), .val (.int p6), .val (.int (1 : Int32)), .unset, .unset, .unset, .unset, .unset, .unset] [(.int (1 : Int32)), (.int p1)])) _
      refine XS.iushr X0.here hx rfl (hb hby at_15) rfl ?_
      show Steps p.tables e below (s₁.setTop (mkF m 16 #[.val (.int p1), .val (.int p2), .val (.int p3), .val (.int p4), .val (.int p5), .val (.int p6), .val (.int (1 : Int32)), .unset, .unset, .unset, .unset, .unset, .unset] [(.int ((p1.toUInt32 >>> ((1 : Int32) &&& 31).toUInt32).toInt32))])) _
      refine XS.iconst X0.here hx rfl (hb hby at_16) ?_
      show Steps p.tables e below (s₁.setTop (mkF m 17 #[.val (.int p1), .val (.int p2), .val (.int p3), .val (.int p4), .val (.int p5), .val (.int p6), .val (.int (1 : Int32)), .unset, .unset, .unset, .unset, .unset, .unset] [(.int (3 : Int32)), (.int ((p1.toUInt32 >>> ((1 : Int32) &&& 31).toUInt32).toInt32))])) _
      refine XS.iand X0.here hx rfl (hb hby at_17) rfl ?_
      show Steps p.tables e below (s₁.setTop (mkF m 18 #[.val (.int p1), .val (.int p2), .val (.int p3), .val (.int p4), .val (.int p5), .val (.int p6), .val (.int (1 : Int32)), .unset, .unset, .unset, .unset, .unset, .unset] [(.int (((p1.toUInt32 >>> ((1 : Int32) &&& 31).toUInt32).toInt32) &&& (3 : Int32)))])) _
      refine XS.iconst X0.here hx rfl (hb hby at_18) ?_
      show Steps p.tables e below (s₁.setTop (mkF m 19 #[.val (.int p1), .val (.int p2), .val (.int p3), .val (.int p4), .val (.int p5), .val (.int p6), .val (.int (1 : Int32)), .unset, .unset, .unset, .unset, .unset, .unset] [(.int (3 : Int32)), (.int (((p1.toUInt32 >>> ((1 : Int32) &&& 31).toUInt32).toInt32) &&& (3 : Int32)))])) _
      refine iremM X0 hx rfl (hb hby at_19) rfl (by decide) ?_
      exact k
    rcases own_nb _ with hk473 | hk473 | hk473
    · rw [hk473]
      refine own_go (A := s₁.setTop (mkF m 20 #[.val (.int p1), .val (.int p2), .val (.int p3), .val (.int p4), .val (.int p5), .val (.int p6), .val (.int (1 : Int32)), .unset, .unset, .unset, .unset, .unset, .unset] [(.int (0 : Int32))])) (B := s₁.setTop (mkF m 23 #[.val (.int p1), .val (.int p2), .val (.int p3), .val (.int p4), .val (.int p5), .val (.int p6), .val (.int (1 : Int32)), .val (.int (0 : Int32)), .unset, .unset, .unset, .unset, .unset] [(.int (3 : Int32))])) (fun t k => ?_) ?_
      · show Steps p.tables e below (s₁.setTop (mkF m 20 #[.val (.int p1), .val (.int p2), .val (.int p3), .val (.int p4), .val (.int p5), .val (.int p6), .val (.int (1 : Int32)), .unset, .unset, .unset, .unset, .unset, .unset] [(.int (0 : Int32))])) _
        refine XS.istore X0.here hx rfl (hb hby at_20) rfl (l' := #[.val (.int p1), .val (.int p2), .val (.int p3), .val (.int p4), .val (.int p5), .val (.int p6), .val (.int (1 : Int32)), .val (.int (0 : Int32)), .unset, .unset, .unset, .unset, .unset]) rfl ?_
        show Steps p.tables e below (s₁.setTop (mkF m 22 #[.val (.int p1), .val (.int p2), .val (.int p3), .val (.int p4), .val (.int p5), .val (.int p6), .val (.int (1 : Int32)), .val (.int (0 : Int32)), .unset, .unset, .unset, .unset, .unset] [])) _
        refine XS.iconst X0.here hx rfl (hb hby at_22) ?_
        exact k
      obtain ⟨T474, h474, k474, X474, e474, E474, A474, st474⟩ := newP X0 hx hZ (hw _ (List.mem_of_getElem? (i := 0) rfl)) e0 (g := (mkF m 23 #[.val (.int p1), .val (.int p2), .val (.int p3), .val (.int p4), .val (.int p5), .val (.int p6), .val (.int (1 : Int32)), .val (.int (0 : Int32)), .unset, .unset, .unset, .unset, .unset] [(.int (3 : Int32))])) rfl (hb hby at_23) rfl (by decide) (cap := 3) (by decide) (by decide) (by decide) (by decide)
      obtain ⟨b474, g474⟩ : ∃ z, z = h0.size := ⟨_, rfl⟩
      rw [← g474] at A474 st474
      have low474 : n0 ≤ b474 := Nat.le_trans Z0 (Nat.le_of_eq g474.symm)
      have sz474 : h0.size ≤ b474 := Nat.le_trans K0.1 (Nat.le_of_eq g474.symm)
      have Z474 : n0 ≤ h474.size := Nat.le_trans Z0 E474.1
      have K474 := K0.ext E474
      have V474 : Arv Z h474 b474 k474 .int (3 : Int32) [(.int (0 : Int32)), (.int (0 : Int32)), (.int (0 : Int32))] (.int (0 : Int32)) := (Arv.new A474 (by decide)).pad (pad_rep [] (.int (0 : Int32)) 3)
      refine own_go st474 ?_
      refine own_go (A := T474.setTop (mkF m 25 #[.val (.int p1), .val (.int p2), .val (.int p3), .val (.int p4), .val (.int p5), .val (.int p6), .val (.int (1 : Int32)), .val (.int (0 : Int32)), .unset, .unset, .unset, .unset, .unset] [(.ref b474)])) (B := T474.setTop (mkF m 28 #[.val (.int p1), .val (.int p2), .val (.int p3), .val (.int p4), .val (.int p5), .val (.int p6), .val (.int (1 : Int32)), .val (.int (0 : Int32)), .val (.ref b474), .unset, .unset, .unset, .unset] [(.int (3 : Int32))])) (fun t k => ?_) ?_
      · show Steps p.tables e below (T474.setTop (mkF m 25 #[.val (.int p1), .val (.int p2), .val (.int p3), .val (.int p4), .val (.int p5), .val (.int p6), .val (.int (1 : Int32)), .val (.int (0 : Int32)), .unset, .unset, .unset, .unset, .unset] [(.ref b474)])) _
        refine XS.astore X474.here hx rfl (hb hby at_25) rfl rfl (l' := #[.val (.int p1), .val (.int p2), .val (.int p3), .val (.int p4), .val (.int p5), .val (.int p6), .val (.int (1 : Int32)), .val (.int (0 : Int32)), .val (.ref b474), .unset, .unset, .unset, .unset]) rfl ?_
        show Steps p.tables e below (T474.setTop (mkF m 27 #[.val (.int p1), .val (.int p2), .val (.int p3), .val (.int p4), .val (.int p5), .val (.int p6), .val (.int (1 : Int32)), .val (.int (0 : Int32)), .val (.ref b474), .unset, .unset, .unset, .unset] [])) _
        refine XS.iconst X474.here hx rfl (hb hby at_27) ?_
        exact k
      obtain ⟨T475, h475, k475, X475, e475, E475, A475, st475⟩ := newP X474 hx hZ (hw _ (List.mem_of_getElem? (i := 0) rfl)) e474 (g := (mkF m 28 #[.val (.int p1), .val (.int p2), .val (.int p3), .val (.int p4), .val (.int p5), .val (.int p6), .val (.int (1 : Int32)), .val (.int (0 : Int32)), .val (.ref b474), .unset, .unset, .unset, .unset] [(.int (3 : Int32))])) rfl (hb hby at_28) rfl (by decide) (cap := 3) (by decide) (by decide) (by decide) (by decide)
      obtain ⟨b475, g475⟩ : ∃ z, z = h474.size := ⟨_, rfl⟩
      rw [← g475] at A475 st475
      have ne475_b474 : b474 ≠ b475 := Nat.ne_of_lt (Nat.lt_of_lt_of_le V474.lt (Nat.le_of_eq g475.symm))
      have low475 : n0 ≤ b475 := Nat.le_trans Z474 (Nat.le_of_eq g475.symm)
      have sz475 : h0.size ≤ b475 := Nat.le_trans K474.1 (Nat.le_of_eq g475.symm)
      have Q476 : Arv Z h475 b474 k474 .int (3 : Int32) [(.int (0 : Int32)), (.int (0 : Int32)), (.int (0 : Int32))] (.int (0 : Int32)) := V474.ext E475
      have Z475 : n0 ≤ h475.size := Nat.le_trans Z474 E475.1
      have K475 := K474.ext E475
      have V475 : Arv Z h475 b475 k475 .int (3 : Int32) [(.int (0 : Int32)), (.int (0 : Int32)), (.int (0 : Int32))] (.int (0 : Int32)) := (Arv.new A475 (by decide)).pad (pad_rep [] (.int (0 : Int32)) 3)
      refine own_go st475 ?_
      refine own_go (A := T475.setTop (mkF m 30 #[.val (.int p1), .val (.int p2), .val (.int p3), .val (.int p4), .val (.int p5), .val (.int p6), .val (.int (1 : Int32)), .val (.int (0 : Int32)), .val (.ref b474), .unset, .unset, .unset, .unset] [(.ref b475)])) (B := T475.setTop (mkF m 32 #[.val (.int p1), .val (.int p2), .val (.int p3), .val (.int p4), .val (.int p5), .val (.int p6), .val (.int (1 : Int32)), .val (.int (0 : Int32)), .val (.ref b474), .val (.ref b475), .unset, .unset, .unset] [])) (fun t k => ?_) ?_
      · show Steps p.tables e below (T475.setTop (mkF m 30 #[.val (.int p1), .val (.int p2), .val (.int p3), .val (.int p4), .val (.int p5), .val (.int p6), .val (.int (1 : Int32)), .val (.int (0 : Int32)), .val (.ref b474), .unset, .unset, .unset, .unset] [(.ref b475)])) _
        refine XS.astore X475.here hx rfl (hb hby at_30) rfl rfl (l' := #[.val (.int p1), .val (.int p2), .val (.int p3), .val (.int p4), .val (.int p5), .val (.int p6), .val (.int (1 : Int32)), .val (.int (0 : Int32)), .val (.ref b474), .val (.ref b475), .unset, .unset, .unset]) rfl ?_
        exact k
      obtain ⟨T477, h477, X477, e477, E477, A477, D477, -, st477⟩ := newO X475 hx hZ hown (hw _ (List.mem_of_getElem? (i := 1) rfl)) (hw _ (List.mem_of_getElem? (i := 2) rfl)) (hw _ (List.mem_of_getElem? (i := 3) rfl)) e475 (g := (mkF m 32 #[.val (.int p1), .val (.int p2), .val (.int p3), .val (.int p4), .val (.int p5), .val (.int p6), .val (.int (1 : Int32)), .val (.int (0 : Int32)), .val (.ref b474), .val (.ref b475), .unset, .unset, .unset] [])) rfl (hb hby at_32) (by decide) (by decide)
      obtain ⟨b477, g477⟩ : ∃ z, z = h475.size := ⟨_, rfl⟩
      rw [← g477] at A477 D477 st477
      have ne477_b474 : b474 ≠ b477 := Nat.ne_of_lt (Nat.lt_of_lt_of_le Q476.lt (Nat.le_of_eq g477.symm))
      have ne477_b475 : b475 ≠ b477 := Nat.ne_of_lt (Nat.lt_of_lt_of_le V475.lt (Nat.le_of_eq g477.symm))
      have low477 : n0 ≤ b477 := Nat.le_trans Z475 (Nat.le_of_eq g477.symm)
      have sz477 : h0.size ≤ b477 := Nat.le_trans K475.1 (Nat.le_of_eq g477.symm)
      have Q478 : Arv Z h477 b474 k474 .int (3 : Int32) [(.int (0 : Int32)), (.int (0 : Int32)), (.int (0 : Int32))] (.int (0 : Int32)) := Q476.ext E477
      have Q479 : Arv Z h477 b475 k475 .int (3 : Int32) [(.int (0 : Int32)), (.int (0 : Int32)), (.int (0 : Int32))] (.int (0 : Int32)) := V475.ext E477
      have Z477 : n0 ≤ h477.size := Nat.le_trans Z475 E477.1
      have K477 := K475.ext E477
      have D477_from_Arcs : Fld Z h477 b477 "com/example/axiomwright/axiomwright/Arcs" "from" "[I" .null := D477 (Or.inl (hw _ (List.mem_of_getElem? (i := 11) rfl))) (ty := (.array .int)) (by decide)
      have D477_to_Arcs : Fld Z h477 b477 "com/example/axiomwright/axiomwright/Arcs" "to" "[I" .null := D477 (Or.inl (hw _ (List.mem_of_getElem? (i := 13) rfl))) (ty := (.array .int)) (by decide)
      have D477_size_Arcs : Fld Z h477 b477 "com/example/axiomwright/axiomwright/Arcs" "size" "I" (.int (0 : Int32)) := D477 (Or.inl (hw _ (List.mem_of_getElem? (i := 20) rfl))) (ty := .int) (by decide)
      refine own_go st477 ?_
      refine own_go (A := T477.setTop (mkF m 35 #[.val (.int p1), .val (.int p2), .val (.int p3), .val (.int p4), .val (.int p5), .val (.int p6), .val (.int (1 : Int32)), .val (.int (0 : Int32)), .val (.ref b474), .val (.ref b475), .unset, .unset, .unset] [(.ref b477)])) (B := T477.setTop (mkF m 36 #[.val (.int p1), .val (.int p2), .val (.int p3), .val (.int p4), .val (.int p5), .val (.int p6), .val (.int (1 : Int32)), .val (.int (0 : Int32)), .val (.ref b474), .val (.ref b475), .unset, .unset, .unset] [(.ref b477), (.ref b477)])) (fun t k => ?_) ?_
      · show Steps p.tables e below (T477.setTop (mkF m 35 #[.val (.int p1), .val (.int p2), .val (.int p3), .val (.int p4), .val (.int p5), .val (.int p6), .val (.int (1 : Int32)), .val (.int (0 : Int32)), .val (.ref b474), .val (.ref b475), .unset, .unset, .unset] [(.ref b477)])) _
        refine XS.dup X477.here hx rfl (hb hby at_35) rfl rfl ?_
        exact k
      obtain ⟨_, _, ⟨T480, L480, k480, n480⟩, -, X480, ⟨Lc480, hQ480, l480, y480, z480⟩, st480⟩ := X477.specialBack hx (y := (⟨"com/example/axiomwright/axiomwright/Arcs", "<init>", "()V"⟩ : MethodName)) rfl hown (mvT hZ (hw _ (List.mem_of_getElem? (i := 4) rfl))) (mvT hZ (hw _ (List.mem_of_getElem? (i := 5) rfl))) (mvT hZ (hw _ (List.mem_of_getElem? (i := 6) rfl))) (by decide) (backOf (W := 1) (rm1 l Z a0 hw [] b477 h477 n0 Z477 A477 D477_from_Arcs D477_to_Arcs D477_size_Arcs low477) hZ (hw _ (List.mem_of_getElem? (i := 6) rfl)) (hw _ (List.mem_of_getElem? (i := 3) rfl)) (by decide) (by decide)) (g := (mkF m 36 #[.val (.int p1), .val (.int p2), .val (.int p3), .val (.int p4), .val (.int p5), .val (.int p6), .val (.int (1 : Int32)), .val (.int (0 : Int32)), .val (.ref b474), .val (.ref b475), .unset, .unset, .unset] [(.ref b477), (.ref b477)])) rfl (by rw [hml]; rfl) (Steps.refl _) (a := b477) (argsL := []) (rest := [(.ref b477)]) (lenOf pd_2 rfl) rfl (by show 2 * 0 + _ ≤ _; exact Nat.le_of_eq rfl) (hb hby at_36) (fun _ _ => ⟨rfl, e477, (by decide : 3 + 2 ≤ _), (by decide : 9 + 32 ≤ _)⟩)
      dsimp only [Pt.U, Pt.locs, Pt.cells, Pt.slots] at X480 l480 y480 z480 st480 hQ480
      subst l480 y480 z480
      obtain ⟨b1_480, b2_480, k1_480, k2_480, rfl, Nq480, Kq480, sq_b1_480, sq_b2_480, pq480_0, U480_0, U480_1, U480_2, U480_3, U480_4⟩ := hQ480
      have ne_b474_b1_480 : b474 ≠ b1_480 := Nat.ne_of_lt (Nat.lt_of_lt_of_le Q478.lt sq_b1_480)
      have ne_b475_b1_480 : b475 ≠ b1_480 := Nat.ne_of_lt (Nat.lt_of_lt_of_le Q479.lt sq_b1_480)
      have ne_b477_b1_480 : b477 ≠ b1_480 := Nat.ne_of_lt (Nat.lt_of_lt_of_le A477.lt sq_b1_480)
      have low_b1_480 : n0 ≤ b1_480 := Nat.le_trans Z477 sq_b1_480
      have sz_b1_480 : h0.size ≤ b1_480 := Nat.le_trans K477.1 sq_b1_480
      have ne_b474_b2_480 : b474 ≠ b2_480 := Nat.ne_of_lt (Nat.lt_of_lt_of_le Q478.lt sq_b2_480)
      have ne_b475_b2_480 : b475 ≠ b2_480 := Nat.ne_of_lt (Nat.lt_of_lt_of_le Q479.lt sq_b2_480)
      have ne_b477_b2_480 : b477 ≠ b2_480 := Nat.ne_of_lt (Nat.lt_of_lt_of_le A477.lt sq_b2_480)
      have low_b2_480 : n0 ≤ b2_480 := Nat.le_trans Z477 sq_b2_480
      have sz_b2_480 : h0.size ≤ b2_480 := Nat.le_trans K477.1 sq_b2_480
      have Q481 : Arv Z T480.heap b474 k474 .int (3 : Int32) [(.int (0 : Int32)), (.int (0 : Int32)), (.int (0 : Int32))] (.int (0 : Int32)) := Q478.keep Kq480 (ninS ne477_b474 nin0)
      have Q482 : Arv Z T480.heap b475 k475 .int (3 : Int32) [(.int (0 : Int32)), (.int (0 : Int32)), (.int (0 : Int32))] (.int (0 : Int32)) := Q479.keep Kq480 (ninS ne477_b475 nin0)
      have Q483 : Exa Z T480.heap b477 "com/example/axiomwright/axiomwright/Arcs" := A477.keep Kq480
      have Z480 : n0 ≤ T480.heap.size := Nat.le_trans Z477 Kq480.1
      have K480 : Keep h0 T480.heap [] := K477.trans Kq480 (allS (Or.inr sz477) all0)
      have N480 := Fr.app N0 Nq480
      refine own_go (A := _) (B := T480.setTop (mkF m 39 #[.val (.int p1), .val (.int p2), .val (.int p3), .val (.int p4), .val (.int p5), .val (.int p6), .val (.int (1 : Int32)), .val (.int (0 : Int32)), .val (.ref b474), .val (.ref b475), .unset, .unset, .unset] [(.ref b477)])) (fun t k => st480.trans k) ?_
      refine own_go (A := T480.setTop (mkF m 39 #[.val (.int p1), .val (.int p2), .val (.int p3), .val (.int p4), .val (.int p5), .val (.int p6), .val (.int (1 : Int32)), .val (.int (0 : Int32)), .val (.ref b474), .val (.ref b475), .unset, .unset, .unset] [(.ref b477)])) (B := T480.setTop (mkF m 41 #[.val (.int p1), .val (.int p2), .val (.int p3), .val (.int p4), .val (.int p5), .val (.int p6), .val (.int (1 : Int32)), .val (.int (0 : Int32)), .val (.ref b474), .val (.ref b475), .val (.ref b477), .unset, .unset] [])) (fun t k => ?_) ?_
      · show Steps p.tables e below (T480.setTop (mkF m 39 #[.val (.int p1), .val (.int p2), .val (.int p3), .val (.int p4), .val (.int p5), .val (.int p6), .val (.int (1 : Int32)), .val (.int (0 : Int32)), .val (.ref b474), .val (.ref b475), .unset, .unset, .unset] [(.ref b477)])) _
        refine XS.astore X480.here hx rfl (hb hby at_39) rfl rfl (l' := #[.val (.int p1), .val (.int p2), .val (.int p3), .val (.int p4), .val (.int p5), .val (.int p6), .val (.int (1 : Int32)), .val (.int (0 : Int32)), .val (.ref b474), .val (.ref b475), .val (.ref b477), .unset, .unset]) rfl ?_
        exact k
      obtain ⟨T484, h484, X484, e484, E484, A484, D484, -, st484⟩ := newO X480 hx hZ hown (hw _ (List.mem_of_getElem? (i := 1) rfl)) (hw _ (List.mem_of_getElem? (i := 2) rfl)) (hw _ (List.mem_of_getElem? (i := 3) rfl)) rfl (g := (mkF m 41 #[.val (.int p1), .val (.int p2), .val (.int p3), .val (.int p4), .val (.int p5), .val (.int p6), .val (.int (1 : Int32)), .val (.int (0 : Int32)), .val (.ref b474), .val (.ref b475), .val (.ref b477), .unset, .unset] [])) rfl (hb hby at_41) (by decide) (by decide)
      obtain ⟨b484, g484⟩ : ∃ z, z = T480.heap.size := ⟨_, rfl⟩
      rw [← g484] at A484 D484 st484
      have ne484_b1_480 : b1_480 ≠ b484 := Nat.ne_of_lt (Nat.lt_of_lt_of_le U480_3.lt (Nat.le_of_eq g484.symm))
      have ne484_b2_480 : b2_480 ≠ b484 := Nat.ne_of_lt (Nat.lt_of_lt_of_le U480_4.lt (Nat.le_of_eq g484.symm))
      have ne484_b474 : b474 ≠ b484 := Nat.ne_of_lt (Nat.lt_of_lt_of_le Q481.lt (Nat.le_of_eq g484.symm))
      have ne484_b475 : b475 ≠ b484 := Nat.ne_of_lt (Nat.lt_of_lt_of_le Q482.lt (Nat.le_of_eq g484.symm))
      have ne484_b477 : b477 ≠ b484 := Nat.ne_of_lt (Nat.lt_of_lt_of_le Q483.lt (Nat.le_of_eq g484.symm))
      have low484 : n0 ≤ b484 := Nat.le_trans Z480 (Nat.le_of_eq g484.symm)
      have sz484 : h0.size ≤ b484 := Nat.le_trans K480.1 (Nat.le_of_eq g484.symm)
      have Q485 : Arv Z h484 b474 k474 .int (3 : Int32) [(.int (0 : Int32)), (.int (0 : Int32)), (.int (0 : Int32))] (.int (0 : Int32)) := Q481.ext E484
      have Q486 : Arv Z h484 b475 k475 .int (3 : Int32) [(.int (0 : Int32)), (.int (0 : Int32)), (.int (0 : Int32))] (.int (0 : Int32)) := Q482.ext E484
      have Q487 : Exa Z h484 b477 "com/example/axiomwright/axiomwright/Arcs" := Q483.ext E484
      have Q488 : Fld Z h484 b477 "com/example/axiomwright/axiomwright/Arcs" "from" "[I" (.ref b1_480) := U480_0.ext E484
      have Q489 : Fld Z h484 b477 "com/example/axiomwright/axiomwright/Arcs" "to" "[I" (.ref b2_480) := U480_1.ext E484
      have Q490 : Fld Z h484 b477 "com/example/axiomwright/axiomwright/Arcs" "size" "I" (.int (0 : Int32)) := U480_2.ext E484
      have Q491 : Arv Z h484 b1_480 k1_480 .int (16 : Int32) [(.int (0 : Int32)), (.int (0 : Int32)), (.int (0 : Int32)), (.int (0 : Int32)), (.int (0 : Int32)), (.int (0 : Int32)), (.int (0 : Int32)), (.int (0 : Int32)), (.int (0 : Int32)), (.int (0 : Int32)), (.int (0 : Int32)), (.int (0 : Int32)), (.int (0 : Int32)), (.int (0 : Int32)), (.int (0 : Int32)), (.int (0 : Int32))] (.int (0 : Int32)) := U480_3.ext E484
      have Q492 : Arv Z h484 b2_480 k2_480 .int (16 : Int32) [(.int (0 : Int32)), (.int (0 : Int32)), (.int (0 : Int32)), (.int (0 : Int32)), (.int (0 : Int32)), (.int (0 : Int32)), (.int (0 : Int32)), (.int (0 : Int32)), (.int (0 : Int32)), (.int (0 : Int32)), (.int (0 : Int32)), (.int (0 : Int32)), (.int (0 : Int32)), (.int (0 : Int32)), (.int (0 : Int32)), (.int (0 : Int32))] (.int (0 : Int32)) := U480_4.ext E484
      have Z484 : n0 ≤ h484.size := Nat.le_trans Z480 E484.1
      have K484 := K480.ext E484
      have D484_from_Arcs : Fld Z h484 b484 "com/example/axiomwright/axiomwright/Arcs" "from" "[I" .null := D484 (Or.inl (hw _ (List.mem_of_getElem? (i := 11) rfl))) (ty := (.array .int)) (by decide)
      have D484_to_Arcs : Fld Z h484 b484 "com/example/axiomwright/axiomwright/Arcs" "to" "[I" .null := D484 (Or.inl (hw _ (List.mem_of_getElem? (i := 13) rfl))) (ty := (.array .int)) (by decide)
      have D484_size_Arcs : Fld Z h484 b484 "com/example/axiomwright/axiomwright/Arcs" "size" "I" (.int (0 : Int32)) := D484 (Or.inl (hw _ (List.mem_of_getElem? (i := 20) rfl))) (ty := .int) (by decide)
      refine own_go st484 ?_
      refine own_go (A := T484.setTop (mkF m 44 #[.val (.int p1), .val (.int p2), .val (.int p3), .val (.int p4), .val (.int p5), .val (.int p6), .val (.int (1 : Int32)), .val (.int (0 : Int32)), .val (.ref b474), .val (.ref b475), .val (.ref b477), .unset, .unset] [(.ref b484)])) (B := T484.setTop (mkF m 45 #[.val (.int p1), .val (.int p2), .val (.int p3), .val (.int p4), .val (.int p5), .val (.int p6), .val (.int (1 : Int32)), .val (.int (0 : Int32)), .val (.ref b474), .val (.ref b475), .val (.ref b477), .unset, .unset] [(.ref b484), (.ref b484)])) (fun t k => ?_) ?_
      · show Steps p.tables e below (T484.setTop (mkF m 44 #[.val (.int p1), .val (.int p2), .val (.int p3), .val (.int p4), .val (.int p5), .val (.int p6), .val (.int (1 : Int32)), .val (.int (0 : Int32)), .val (.ref b474), .val (.ref b475), .val (.ref b477), .unset, .unset] [(.ref b484)])) _
        refine XS.dup X484.here hx rfl (hb hby at_44) rfl rfl ?_
        exact k
      obtain ⟨_, _, ⟨T493, L493, k493, n493⟩, -, X493, ⟨Lc493, hQ493, l493, y493, z493⟩, st493⟩ := X484.specialBack hx (y := (⟨"com/example/axiomwright/axiomwright/Arcs", "<init>", "()V"⟩ : MethodName)) rfl hown (mvT hZ (hw _ (List.mem_of_getElem? (i := 4) rfl))) (mvT hZ (hw _ (List.mem_of_getElem? (i := 5) rfl))) (mvT hZ (hw _ (List.mem_of_getElem? (i := 6) rfl))) (by decide) (backOf (W := 1) (rm1 l Z a0 hw [] b484 h484 n0 Z484 A484 D484_from_Arcs D484_to_Arcs D484_size_Arcs low484) hZ (hw _ (List.mem_of_getElem? (i := 6) rfl)) (hw _ (List.mem_of_getElem? (i := 3) rfl)) (by decide) (by decide)) (g := (mkF m 45 #[.val (.int p1), .val (.int p2), .val (.int p3), .val (.int p4), .val (.int p5), .val (.int p6), .val (.int (1 : Int32)), .val (.int (0 : Int32)), .val (.ref b474), .val (.ref b475), .val (.ref b477), .unset, .unset] [(.ref b484), (.ref b484)])) rfl (by rw [hml]; rfl) (Steps.refl _) (a := b484) (argsL := []) (rest := [(.ref b484)]) (lenOf pd_2 rfl) rfl (by show 2 * 0 + _ ≤ _; exact Nat.le_of_eq rfl) (hb hby at_45) (fun _ _ => ⟨rfl, e484, (by decide : 6 + 2 ≤ _), (by decide : 44 + 32 ≤ _)⟩)
      dsimp only [Pt.U, Pt.locs, Pt.cells, Pt.slots] at X493 l493 y493 z493 st493 hQ493
      subst l493 y493 z493
      obtain ⟨b1_493, b2_493, k1_493, k2_493, rfl, Nq493, Kq493, sq_b1_493, sq_b2_493, pq493_0, U493_0, U493_1, U493_2, U493_3, U493_4⟩ := hQ493
      have ne_b1_480_b1_493 : b1_480 ≠ b1_493 := Nat.ne_of_lt (Nat.lt_of_lt_of_le Q491.lt sq_b1_493)
      have ne_b2_480_b1_493 : b2_480 ≠ b1_493 := Nat.ne_of_lt (Nat.lt_of_lt_of_le Q492.lt sq_b1_493)
      have ne_b474_b1_493 : b474 ≠ b1_493 := Nat.ne_of_lt (Nat.lt_of_lt_of_le Q485.lt sq_b1_493)
      have ne_b475_b1_493 : b475 ≠ b1_493 := Nat.ne_of_lt (Nat.lt_of_lt_of_le Q486.lt sq_b1_493)
      have ne_b477_b1_493 : b477 ≠ b1_493 := Nat.ne_of_lt (Nat.lt_of_lt_of_le Q487.lt sq_b1_493)
      have ne_b484_b1_493 : b484 ≠ b1_493 := Nat.ne_of_lt (Nat.lt_of_lt_of_le A484.lt sq_b1_493)
      have low_b1_493 : n0 ≤ b1_493 := Nat.le_trans Z484 sq_b1_493
      have sz_b1_493 : h0.size ≤ b1_493 := Nat.le_trans K484.1 sq_b1_493
      have ne_b1_480_b2_493 : b1_480 ≠ b2_493 := Nat.ne_of_lt (Nat.lt_of_lt_of_le Q491.lt sq_b2_493)
      have ne_b2_480_b2_493 : b2_480 ≠ b2_493 := Nat.ne_of_lt (Nat.lt_of_lt_of_le Q492.lt sq_b2_493)
      have ne_b474_b2_493 : b474 ≠ b2_493 := Nat.ne_of_lt (Nat.lt_of_lt_of_le Q485.lt sq_b2_493)
      have ne_b475_b2_493 : b475 ≠ b2_493 := Nat.ne_of_lt (Nat.lt_of_lt_of_le Q486.lt sq_b2_493)
      have ne_b477_b2_493 : b477 ≠ b2_493 := Nat.ne_of_lt (Nat.lt_of_lt_of_le Q487.lt sq_b2_493)
      have ne_b484_b2_493 : b484 ≠ b2_493 := Nat.ne_of_lt (Nat.lt_of_lt_of_le A484.lt sq_b2_493)
      have low_b2_493 : n0 ≤ b2_493 := Nat.le_trans Z484 sq_b2_493
      have sz_b2_493 : h0.size ≤ b2_493 := Nat.le_trans K484.1 sq_b2_493
      have Q494 : Arv Z T493.heap b474 k474 .int (3 : Int32) [(.int (0 : Int32)), (.int (0 : Int32)), (.int (0 : Int32))] (.int (0 : Int32)) := Q485.keep Kq493 (ninS ne484_b474 nin0)
      have Q495 : Arv Z T493.heap b475 k475 .int (3 : Int32) [(.int (0 : Int32)), (.int (0 : Int32)), (.int (0 : Int32))] (.int (0 : Int32)) := Q486.keep Kq493 (ninS ne484_b475 nin0)
      have Q496 : Exa Z T493.heap b477 "com/example/axiomwright/axiomwright/Arcs" := Q487.keep Kq493
      have Q497 : Fld Z T493.heap b477 "com/example/axiomwright/axiomwright/Arcs" "from" "[I" (.ref b1_480) := Q488.keep Kq493 (ninS ne484_b477 nin0)
      have Q498 : Fld Z T493.heap b477 "com/example/axiomwright/axiomwright/Arcs" "to" "[I" (.ref b2_480) := Q489.keep Kq493 (ninS ne484_b477 nin0)
      have Q499 : Fld Z T493.heap b477 "com/example/axiomwright/axiomwright/Arcs" "size" "I" (.int (0 : Int32)) := Q490.keep Kq493 (ninS ne484_b477 nin0)
      have Q500 : Arv Z T493.heap b1_480 k1_480 .int (16 : Int32) [(.int (0 : Int32)), (.int (0 : Int32)), (.int (0 : Int32)), (.int (0 : Int32)), (.int (0 : Int32)), (.int (0 : Int32)), (.int (0 : Int32)), (.int (0 : Int32)), (.int (0 : Int32)), (.int (0 : Int32)), (.int (0 : Int32)), (.int (0 : Int32)), (.int (0 : Int32)), (.int (0 : Int32)), (.int (0 : Int32)), (.int (0 : Int32))] (.int (0 : Int32)) := Q491.keep Kq493 (ninS ne484_b1_480 nin0)
      have Q501 : Arv Z T493.heap b2_480 k2_480 .int (16 : Int32) [(.int (0 : Int32)), (.int (0 : Int32)), (.int (0 : Int32)), (.int (0 : Int32)), (.int (0 : Int32)), (.int (0 : Int32)), (.int (0 : Int32)), (.int (0 : Int32)), (.int (0 : Int32)), (.int (0 : Int32)), (.int (0 : Int32)), (.int (0 : Int32)), (.int (0 : Int32)), (.int (0 : Int32)), (.int (0 : Int32)), (.int (0 : Int32))] (.int (0 : Int32)) := Q492.keep Kq493 (ninS ne484_b2_480 nin0)
      have Q502 : Exa Z T493.heap b484 "com/example/axiomwright/axiomwright/Arcs" := A484.keep Kq493
      have Z493 : n0 ≤ T493.heap.size := Nat.le_trans Z484 Kq493.1
      have K493 : Keep h0 T493.heap [] := K484.trans Kq493 (allS (Or.inr sz484) all0)
      have N493 := Fr.app N480 Nq493
      refine own_go (A := _) (B := T493.setTop (mkF m 48 #[.val (.int p1), .val (.int p2), .val (.int p3), .val (.int p4), .val (.int p5), .val (.int p6), .val (.int (1 : Int32)), .val (.int (0 : Int32)), .val (.ref b474), .val (.ref b475), .val (.ref b477), .unset, .unset] [(.ref b484)])) (fun t k => st493.trans k) ?_
      refine own_go (A := T493.setTop (mkF m 48 #[.val (.int p1), .val (.int p2), .val (.int p3), .val (.int p4), .val (.int p5), .val (.int p6), .val (.int (1 : Int32)), .val (.int (0 : Int32)), .val (.ref b474), .val (.ref b475), .val (.ref b477), .unset, .unset] [(.ref b484)])) (B := T493.setTop (mkF m 62 #[.val (.int p1), .val (.int p2), .val (.int p3), .val (.int p4), .val (.int p5), .val (.int p6), .val (.int (1 : Int32)), .val (.int (0 : Int32)), .val (.ref b474), .val (.ref b475), .val (.ref b477), .val (.ref b484), .val (.int (0 : Int32))] [(.int p3), (.int p2), (.ref b477)])) (fun t k => ?_) ?_
      · show Steps p.tables e below (T493.setTop (mkF m 48 #[.val (.int p1), .val (.int p2), .val (.int p3), .val (.int p4), .val (.int p5), .val (.int p6), .val (.int (1 : Int32)), .val (.int (0 : Int32)), .val (.ref b474), .val (.ref b475), .val (.ref b477), .unset, .unset] [(.ref b484)])) _
        refine XS.astore X493.here hx rfl (hb hby at_48) rfl rfl (l' := #[.val (.int p1), .val (.int p2), .val (.int p3), .val (.int p4), .val (.int p5), .val (.int p6), .val (.int (1 : Int32)), .val (.int (0 : Int32)), .val (.ref b474), .val (.ref b475), .val (.ref b477), .val (.ref b484), .unset]) rfl ?_
        show Steps p.tables e below (T493.setTop (mkF m 50 #[.val (.int p1), .val (.int p2), .val (.int p3), .val (.int p4), .val (.int p5), .val (.int p6), .val (.int (1 : Int32)), .val (.int (0 : Int32)), .val (.ref b474), .val (.ref b475), .val (.ref b477), .val (.ref b484), .unset] [])) _
        refine XS.iconst X493.here hx rfl (hb hby at_50) ?_
        show Steps p.tables e below (T493.setTop (mkF m 51 #[.val (.int p1), .val (.int p2), .val (.int p3), .val (.int p4), .val (.int p5), .val (.int p6), .val (.int (1 : Int32)), .val (.int (0 : Int32)), .val (.ref b474), .val (.ref b475), .val (.ref b477), .val (.ref b484), .unset] [(.int (0 : Int32))])) _
        refine XS.istore X493.here hx rfl (hb hby at_51) rfl (l' := #[.val (.int p1), .val (.int p2), .val (.int p3), .val (.int p4), .val (.int p5), .val (.int p6), .val (.int (1 : Int32)), .val (.int (0 : Int32)), .val (.ref b474), .val (.ref b475), .val (.ref b477), .val (.ref b484), .val (.int (0 : Int32))]) rfl ?_
        show Steps p.tables e below (T493.setTop (mkF m 53 #[.val (.int p1), .val (.int p2), .val (.int p3), .val (.int p4), .val (.int p5), .val (.int p6), .val (.int (1 : Int32)), .val (.int (0 : Int32)), .val (.ref b474), .val (.ref b475), .val (.ref b477), .val (.ref b484), .val (.int (0 : Int32))] [])) _
        refine XS.iload X493.here hx rfl (hb hby at_53) rfl ?_
        show Steps p.tables e below (T493.setTop (mkF m 55 #[.val (.int p1), .val (.int p2), .val (.int p3), .val (.int p4), .val (.int p5), .val (.int p6), .val (.int (1 : Int32)), .val (.int (0 : Int32)), .val (.ref b474), .val (.ref b475), .val (.ref b477), .val (.ref b484), .val (.int (0 : Int32))] [(.int (1 : Int32))])) _
        refine XS.ifNo X493.here hx rfl (hb hby at_55) rfl ((if0 _ _).trans (feq (by decide : ¬ ((1 : Int32) = (0 : Int32)))).1) ?_
        show Steps p.tables e below (T493.setTop (mkF m 58 #[.val (.int p1), .val (.int p2), .val (.int p3), .val (.int p4), .val (.int p5), .val (.int p6), .val (.int (1 : Int32)), .val (.int (0 : Int32)), .val (.ref b474), .val (.ref b475), .val (.ref b477), .val (.ref b484), .val (.int (0 : Int32))] [])) _
        refine XS.aload X493.here hx rfl (hb hby at_58) rfl rfl ?_
        show Steps p.tables e below (T493.setTop (mkF m 60 #[.val (.int p1), .val (.int p2), .val (.int p3), .val (.int p4), .val (.int p5), .val (.int p6), .val (.int (1 : Int32)), .val (.int (0 : Int32)), .val (.ref b474), .val (.ref b475), .val (.ref b477), .val (.ref b484), .val (.int (0 : Int32))] [(.ref b477)])) _
        refine XS.iloadN X493.here hx rfl (hb hby at_60) rfl ?_
        show Steps p.tables e below (T493.setTop (mkF m 61 #[.val (.int p1), .val (.int p2), .val (.int p3), .val (.int p4), .val (.int p5), .val (.int p6), .val (.int (1 : Int32)), .val (.int (0 : Int32)), .val (.ref b474), .val (.ref b475), .val (.ref b477), .val (.ref b484), .val (.int (0 : Int32))] [(.int p2), (.ref b477)])) _
        refine XS.iloadN X493.here hx rfl (hb hby at_61) rfl ?_
        exact k
      obtain ⟨cq504, kq504, q504a, q504b, q504c⟩ := isOf hZ rfl Q496
      obtain ⟨_, _, ⟨T504, L504, k504, n504⟩, -, X504, ⟨Lc504, hQ504, l504, y504, z504⟩, st504⟩ := X493.virtualBack hx (y := (⟨"com/example/axiomwright/axiomwright/Arcs", "add", "(II)V"⟩ : MethodName)) (z := (⟨"com/example/axiomwright/axiomwright/Arcs", "add", "(II)V"⟩ : MethodName)) hown (mvT hZ (hw _ (List.mem_of_getElem? (i := 30) rfl))) (mvT hZ (hw _ (List.mem_of_getElem? (i := 31) rfl))) (notFace_of_selects (args := #[]) (mvT hZ (hw _ (List.mem_of_getElem? (i := 33) rfl)))) (mvT hZ (hw _ (List.mem_of_getElem? (i := 33) rfl))) (mvT hZ (hw _ (List.mem_of_getElem? (i := 32) rfl))) (by decide) (backOf (W := 0) (rm6 l Z a0 hw [] b477 p2 p3 (0 : Int32) b1_480 b2_480 k1_480 k2_480 [(.int (0 : Int32)), (.int (0 : Int32)), (.int (0 : Int32)), (.int (0 : Int32)), (.int (0 : Int32)), (.int (0 : Int32)), (.int (0 : Int32)), (.int (0 : Int32)), (.int (0 : Int32)), (.int (0 : Int32)), (.int (0 : Int32)), (.int (0 : Int32)), (.int (0 : Int32)), (.int (0 : Int32)), (.int (0 : Int32)), (.int (0 : Int32))] [(.int (0 : Int32)), (.int (0 : Int32)), (.int (0 : Int32)), (.int (0 : Int32)), (.int (0 : Int32)), (.int (0 : Int32)), (.int (0 : Int32)), (.int (0 : Int32)), (.int (0 : Int32)), (.int (0 : Int32)), (.int (0 : Int32)), (.int (0 : Int32)), (.int (0 : Int32)), (.int (0 : Int32)), (.int (0 : Int32)), (.int (0 : Int32))] T493.heap n0 Z493 Q496 Q499 Q497 Q498 Q500 Q501 low477 low_b1_480 low_b2_480 ne_b477_b1_480 ne_b477_b2_480 pq480_0 (by decide) (by decide) (by decide) (Nat.le_of_ble_eq_true rfl) (Nat.le_of_ble_eq_true rfl)) hZ (hw _ (List.mem_of_getElem? (i := 34) rfl)) (hw _ (List.mem_of_getElem? (i := 3) rfl)) (by decide) (by decide)) q504a q504c (g := (mkF m 62 #[.val (.int p1), .val (.int p2), .val (.int p3), .val (.int p4), .val (.int p5), .val (.int p6), .val (.int (1 : Int32)), .val (.int (0 : Int32)), .val (.ref b474), .val (.ref b475), .val (.ref b477), .val (.ref b484), .val (.int (0 : Int32))] [(.int p3), (.int p2), (.ref b477)])) rfl (by rw [hml]; rfl) (Steps.refl _) (argsL := [(.int p2), (.int p3)]) (rest := []) (lenOf pd_0 rfl) rfl (by show 2 * 0 + _ ≤ _; exact Nat.le_of_eq rfl) (hb hby at_62) (fun _ _ => ⟨rfl, rfl, (by decide : 8 + 0 ≤ _), (by decide : 76 + 0 ≤ _)⟩)
      dsimp only [Pt.U, Pt.locs, Pt.cells, Pt.slots] at X504 l504 y504 z504 st504 hQ504
      subst l504 y504 z504
      obtain ⟨rfl, Nq504, Kq504, U504_0, U504_1, U504_2, U504_3, U504_4⟩ := hQ504
      have Q505 : Arv Z T504.heap b474 k474 .int (3 : Int32) [(.int (0 : Int32)), (.int (0 : Int32)), (.int (0 : Int32))] (.int (0 : Int32)) := Q494.keep Kq504 (ninS ne477_b474 (ninS ne_b474_b1_480 (ninS ne_b474_b2_480 nin0)))
      have Q506 : Arv Z T504.heap b475 k475 .int (3 : Int32) [(.int (0 : Int32)), (.int (0 : Int32)), (.int (0 : Int32))] (.int (0 : Int32)) := Q495.keep Kq504 (ninS ne477_b475 (ninS ne_b475_b1_480 (ninS ne_b475_b2_480 nin0)))
      have Q507 : Exa Z T504.heap b477 "com/example/axiomwright/axiomwright/Arcs" := Q496.keep Kq504
      have Q508 : Exa Z T504.heap b484 "com/example/axiomwright/axiomwright/Arcs" := Q502.keep Kq504
      have Q509 : Fld Z T504.heap b484 "com/example/axiomwright/axiomwright/Arcs" "from" "[I" (.ref b1_493) := U493_0.keep Kq504 (ninS (Ne.symm ne484_b477) (ninS (Ne.symm ne484_b1_480) (ninS (Ne.symm ne484_b2_480) nin0)))
      have Q510 : Fld Z T504.heap b484 "com/example/axiomwright/axiomwright/Arcs" "to" "[I" (.ref b2_493) := U493_1.keep Kq504 (ninS (Ne.symm ne484_b477) (ninS (Ne.symm ne484_b1_480) (ninS (Ne.symm ne484_b2_480) nin0)))
      have Q511 : Fld Z T504.heap b484 "com/example/axiomwright/axiomwright/Arcs" "size" "I" (.int (0 : Int32)) := U493_2.keep Kq504 (ninS (Ne.symm ne484_b477) (ninS (Ne.symm ne484_b1_480) (ninS (Ne.symm ne484_b2_480) nin0)))
      have Q512 : Arv Z T504.heap b1_493 k1_493 .int (16 : Int32) [(.int (0 : Int32)), (.int (0 : Int32)), (.int (0 : Int32)), (.int (0 : Int32)), (.int (0 : Int32)), (.int (0 : Int32)), (.int (0 : Int32)), (.int (0 : Int32)), (.int (0 : Int32)), (.int (0 : Int32)), (.int (0 : Int32)), (.int (0 : Int32)), (.int (0 : Int32)), (.int (0 : Int32)), (.int (0 : Int32)), (.int (0 : Int32))] (.int (0 : Int32)) := U493_3.keep Kq504 (ninS (Ne.symm ne_b477_b1_493) (ninS (Ne.symm ne_b1_480_b1_493) (ninS (Ne.symm ne_b2_480_b1_493) nin0)))
      have Q513 : Arv Z T504.heap b2_493 k2_493 .int (16 : Int32) [(.int (0 : Int32)), (.int (0 : Int32)), (.int (0 : Int32)), (.int (0 : Int32)), (.int (0 : Int32)), (.int (0 : Int32)), (.int (0 : Int32)), (.int (0 : Int32)), (.int (0 : Int32)), (.int (0 : Int32)), (.int (0 : Int32)), (.int (0 : Int32)), (.int (0 : Int32)), (.int (0 : Int32)), (.int (0 : Int32)), (.int (0 : Int32))] (.int (0 : Int32)) := U493_4.keep Kq504 (ninS (Ne.symm ne_b477_b2_493) (ninS (Ne.symm ne_b1_480_b2_493) (ninS (Ne.symm ne_b2_480_b2_493) nin0)))
      have U504_0n : Fld Z T504.heap b477 "com/example/axiomwright/axiomwright/Arcs" "size" "I" (.int (1 : Int32)) := U504_0
      have U504_3n : Arv Z T504.heap b1_480 k1_480 .int (16 : Int32) [(.int p2), (.int (0 : Int32)), (.int (0 : Int32)), (.int (0 : Int32)), (.int (0 : Int32)), (.int (0 : Int32)), (.int (0 : Int32)), (.int (0 : Int32)), (.int (0 : Int32)), (.int (0 : Int32)), (.int (0 : Int32)), (.int (0 : Int32)), (.int (0 : Int32)), (.int (0 : Int32)), (.int (0 : Int32)), (.int (0 : Int32))] (.int (0 : Int32)) := U504_3
      have U504_4n : Arv Z T504.heap b2_480 k2_480 .int (16 : Int32) [(.int p3), (.int (0 : Int32)), (.int (0 : Int32)), (.int (0 : Int32)), (.int (0 : Int32)), (.int (0 : Int32)), (.int (0 : Int32)), (.int (0 : Int32)), (.int (0 : Int32)), (.int (0 : Int32)), (.int (0 : Int32)), (.int (0 : Int32)), (.int (0 : Int32)), (.int (0 : Int32)), (.int (0 : Int32)), (.int (0 : Int32))] (.int (0 : Int32)) := U504_4
      have Z504 : n0 ≤ T504.heap.size := Nat.le_trans Z493 Kq504.1
      have K504 : Keep h0 T504.heap [] := K493.trans Kq504 (allS (Or.inr sz477) (allS (Or.inr sz_b1_480) (allS (Or.inr sz_b2_480) all0)))
      have N504 := Fr.app N493 Nq504
      refine own_go (A := _) (B := T504.setTop (mkF m 65 #[.val (.int p1), .val (.int p2), .val (.int p3), .val (.int p4), .val (.int p5), .val (.int p6), .val (.int (1 : Int32)), .val (.int (0 : Int32)), .val (.ref b474), .val (.ref b475), .val (.ref b477), .val (.ref b484), .val (.int (0 : Int32))] [])) (fun t k => st504.trans k) ?_
      refine own_go (A := T504.setTop (mkF m 65 #[.val (.int p1), .val (.int p2), .val (.int p3), .val (.int p4), .val (.int p5), .val (.int p6), .val (.int (1 : Int32)), .val (.int (0 : Int32)), .val (.ref b474), .val (.ref b475), .val (.ref b477), .val (.ref b484), .val (.int (0 : Int32))] [])) (B := T504.setTop (mkF m 70 #[.val (.int p1), .val (.int p2), .val (.int p3), .val (.int p4), .val (.int p5), .val (.int p6), .val (.int (1 : Int32)), .val (.int (0 : Int32)), .val (.ref b474), .val (.ref b475), .val (.ref b477), .val (.ref b484), .val (.int (0 : Int32))] [(.int p2), (.int (0 : Int32)), (.ref b474)])) (fun t k => ?_) ?_
      · show Steps p.tables e below (T504.setTop (mkF m 65 #[.val (.int p1), .val (.int p2), .val (.int p3), .val (.int p4), .val (.int p5), .val (.int p6), .val (.int (1 : Int32)), .val (.int (0 : Int32)), .val (.ref b474), .val (.ref b475), .val (.ref b477), .val (.ref b484), .val (.int (0 : Int32))] [])) _
        refine XS.aload X504.here hx rfl (hb hby at_65) rfl rfl ?_
        show Steps p.tables e below (T504.setTop (mkF m 67 #[.val (.int p1), .val (.int p2), .val (.int p3), .val (.int p4), .val (.int p5), .val (.int p6), .val (.int (1 : Int32)), .val (.int (0 : Int32)), .val (.ref b474), .val (.ref b475), .val (.ref b477), .val (.ref b484), .val (.int (0 : Int32))] [(.ref b474)])) _
        refine XS.iload X504.here hx rfl (hb hby at_67) rfl ?_
        show Steps p.tables e below (T504.setTop (mkF m 69 #[.val (.int p1), .val (.int p2), .val (.int p3), .val (.int p4), .val (.int p5), .val (.int p6), .val (.int (1 : Int32)), .val (.int (0 : Int32)), .val (.ref b474), .val (.ref b475), .val (.ref b477), .val (.ref b484), .val (.int (0 : Int32))] [(.int (0 : Int32)), (.ref b474)])) _
        refine XS.iloadN X504.here hx rfl (hb hby at_69) rfl ?_
        exact k
      obtain ⟨cl514, Ar514, q514, S514, M514, Ha514, G514⟩ := Q505
      have hin514 : ¬ ((0 : Int32) < 0 ∨ cl514.slots.size ≤ ((0 : Int32)).toNatClampNeg) := inb_of S514 ⟨by decide, by decide⟩
      obtain ⟨T514, h514, X514, e514, W514, st514⟩ := stI X504 hx hZ rfl Ar514 (j := (0 : Int32)) hin514 (g := (mkF m 70 #[.val (.int p1), .val (.int p2), .val (.int p3), .val (.int p4), .val (.int p5), .val (.int p6), .val (.int (1 : Int32)), .val (.int (0 : Int32)), .val (.ref b474), .val (.ref b475), .val (.ref b477), .val (.ref b484), .val (.int (0 : Int32))] [(.int p2), (.int (0 : Int32)), (.ref b474)])) rfl rfl (hb hby at_70)
      have Q515 : Arv Z h514 b475 k475 .int (3 : Int32) [(.int (0 : Int32)), (.int (0 : Int32)), (.int (0 : Int32))] (.int (0 : Int32)) := Q506.other W514 (Ne.symm ne475_b474)
      have Q516 : Exa Z h514 b477 "com/example/axiomwright/axiomwright/Arcs" := Q507.wr W514
      have Q517 : Exa Z h514 b484 "com/example/axiomwright/axiomwright/Arcs" := Q508.wr W514
      have Q518 : Fld Z h514 b484 "com/example/axiomwright/axiomwright/Arcs" "from" "[I" (.ref b1_493) := Q509.other W514 (Or.inl (Ne.symm ne484_b474))
      have Q519 : Fld Z h514 b484 "com/example/axiomwright/axiomwright/Arcs" "to" "[I" (.ref b2_493) := Q510.other W514 (Or.inl (Ne.symm ne484_b474))
      have Q520 : Fld Z h514 b484 "com/example/axiomwright/axiomwright/Arcs" "size" "I" (.int (0 : Int32)) := Q511.other W514 (Or.inl (Ne.symm ne484_b474))
      have Q521 : Arv Z h514 b1_493 k1_493 .int (16 : Int32) [(.int (0 : Int32)), (.int (0 : Int32)), (.int (0 : Int32)), (.int (0 : Int32)), (.int (0 : Int32)), (.int (0 : Int32)), (.int (0 : Int32)), (.int (0 : Int32)), (.int (0 : Int32)), (.int (0 : Int32)), (.int (0 : Int32)), (.int (0 : Int32)), (.int (0 : Int32)), (.int (0 : Int32)), (.int (0 : Int32)), (.int (0 : Int32))] (.int (0 : Int32)) := Q512.other W514 (Ne.symm ne_b474_b1_493)
      have Q522 : Arv Z h514 b2_493 k2_493 .int (16 : Int32) [(.int (0 : Int32)), (.int (0 : Int32)), (.int (0 : Int32)), (.int (0 : Int32)), (.int (0 : Int32)), (.int (0 : Int32)), (.int (0 : Int32)), (.int (0 : Int32)), (.int (0 : Int32)), (.int (0 : Int32)), (.int (0 : Int32)), (.int (0 : Int32)), (.int (0 : Int32)), (.int (0 : Int32)), (.int (0 : Int32)), (.int (0 : Int32))] (.int (0 : Int32)) := Q513.other W514 (Ne.symm ne_b474_b2_493)
      have Q523 : Fld Z h514 b477 "com/example/axiomwright/axiomwright/Arcs" "size" "I" (.int (1 : Int32)) := U504_0n.other W514 (Or.inl (Ne.symm ne477_b474))
      have Q524 : Fld Z h514 b477 "com/example/axiomwright/axiomwright/Arcs" "from" "[I" (.ref b1_480) := U504_1.other W514 (Or.inl (Ne.symm ne477_b474))
      have Q525 : Fld Z h514 b477 "com/example/axiomwright/axiomwright/Arcs" "to" "[I" (.ref b2_480) := U504_2.other W514 (Or.inl (Ne.symm ne477_b474))
      have Q526 : Arv Z h514 b1_480 k1_480 .int (16 : Int32) [(.int p2), (.int (0 : Int32)), (.int (0 : Int32)), (.int (0 : Int32)), (.int (0 : Int32)), (.int (0 : Int32)), (.int (0 : Int32)), (.int (0 : Int32)), (.int (0 : Int32)), (.int (0 : Int32)), (.int (0 : Int32)), (.int (0 : Int32)), (.int (0 : Int32)), (.int (0 : Int32)), (.int (0 : Int32)), (.int (0 : Int32))] (.int (0 : Int32)) := U504_3n.other W514 (Ne.symm ne_b474_b1_480)
      have Q527 : Arv Z h514 b2_480 k2_480 .int (16 : Int32) [(.int p3), (.int (0 : Int32)), (.int (0 : Int32)), (.int (0 : Int32)), (.int (0 : Int32)), (.int (0 : Int32)), (.int (0 : Int32)), (.int (0 : Int32)), (.int (0 : Int32)), (.int (0 : Int32)), (.int (0 : Int32)), (.int (0 : Int32)), (.int (0 : Int32)), (.int (0 : Int32)), (.int (0 : Int32)), (.int (0 : Int32))] (.int (0 : Int32)) := U504_4n.other W514 (Ne.symm ne_b474_b2_480)
      have U514 : Arv Z h514 b474 k474 .int (3 : Int32) [(.int p2), (.int (0 : Int32)), (.int (0 : Int32))] (.int (0 : Int32)) := Arv.set Ar514 q514 S514 M514 Ha514 G514 rfl W514 0 rfl (Nat.le_of_ble_eq_true rfl)
      have Z514 : n0 ≤ h514.size := Nat.le_trans Z504 (Keep.of_wr W514).1
      have N514 := Fr.snoc X514 N504 low474
      have K514 := K504.wr W514 (Or.inr sz474)
      refine own_go st514 ?_
      refine own_go (A := T514.setTop (mkF m 71 #[.val (.int p1), .val (.int p2), .val (.int p3), .val (.int p4), .val (.int p5), .val (.int p6), .val (.int (1 : Int32)), .val (.int (0 : Int32)), .val (.ref b474), .val (.ref b475), .val (.ref b477), .val (.ref b484), .val (.int (0 : Int32))] [])) (B := T514.setTop (mkF m 76 #[.val (.int p1), .val (.int p2), .val (.int p3), .val (.int p4), .val (.int p5), .val (.int p6), .val (.int (1 : Int32)), .val (.int (0 : Int32)), .val (.ref b474), .val (.ref b475), .val (.ref b477), .val (.ref b484), .val (.int (0 : Int32))] [(.int p3), (.int (0 : Int32)), (.ref b475)])) (fun t k => ?_) ?_
      · show Steps p.tables e below (T514.setTop (mkF m 71 #[.val (.int p1), .val (.int p2), .val (.int p3), .val (.int p4), .val (.int p5), .val (.int p6), .val (.int (1 : Int32)), .val (.int (0 : Int32)), .val (.ref b474), .val (.ref b475), .val (.ref b477), .val (.ref b484), .val (.int (0 : Int32))] [])) _
        refine XS.aload X514.here hx rfl (hb hby at_71) rfl rfl ?_
        show Steps p.tables e below (T514.setTop (mkF m 73 #[.val (.int p1), .val (.int p2), .val (.int p3), .val (.int p4), .val (.int p5), .val (.int p6), .val (.int (1 : Int32)), .val (.int (0 : Int32)), .val (.ref b474), .val (.ref b475), .val (.ref b477), .val (.ref b484), .val (.int (0 : Int32))] [(.ref b475)])) _
        refine XS.iload X514.here hx rfl (hb hby at_73) rfl ?_
        show Steps p.tables e below (T514.setTop (mkF m 75 #[.val (.int p1), .val (.int p2), .val (.int p3), .val (.int p4), .val (.int p5), .val (.int p6), .val (.int (1 : Int32)), .val (.int (0 : Int32)), .val (.ref b474), .val (.ref b475), .val (.ref b477), .val (.ref b484), .val (.int (0 : Int32))] [(.int (0 : Int32)), (.ref b475)])) _
        refine XS.iloadN X514.here hx rfl (hb hby at_75) rfl ?_
        exact k
      obtain ⟨cl528, Ar528, q528, S528, M528, Ha528, G528⟩ := Q515
      have hin528 : ¬ ((0 : Int32) < 0 ∨ cl528.slots.size ≤ ((0 : Int32)).toNatClampNeg) := inb_of S528 ⟨by decide, by decide⟩
      obtain ⟨T528, h528, X528, e528, W528, st528⟩ := stI X514 hx hZ e514 Ar528 (j := (0 : Int32)) hin528 (g := (mkF m 76 #[.val (.int p1), .val (.int p2), .val (.int p3), .val (.int p4), .val (.int p5), .val (.int p6), .val (.int (1 : Int32)), .val (.int (0 : Int32)), .val (.ref b474), .val (.ref b475), .val (.ref b477), .val (.ref b484), .val (.int (0 : Int32))] [(.int p3), (.int (0 : Int32)), (.ref b475)])) rfl rfl (hb hby at_76)
      have Q529 : Exa Z h528 b477 "com/example/axiomwright/axiomwright/Arcs" := Q516.wr W528
      have Q530 : Exa Z h528 b484 "com/example/axiomwright/axiomwright/Arcs" := Q517.wr W528
      have Q531 : Fld Z h528 b484 "com/example/axiomwright/axiomwright/Arcs" "from" "[I" (.ref b1_493) := Q518.other W528 (Or.inl (Ne.symm ne484_b475))
      have Q532 : Fld Z h528 b484 "com/example/axiomwright/axiomwright/Arcs" "to" "[I" (.ref b2_493) := Q519.other W528 (Or.inl (Ne.symm ne484_b475))
      have Q533 : Fld Z h528 b484 "com/example/axiomwright/axiomwright/Arcs" "size" "I" (.int (0 : Int32)) := Q520.other W528 (Or.inl (Ne.symm ne484_b475))
      have Q534 : Arv Z h528 b1_493 k1_493 .int (16 : Int32) [(.int (0 : Int32)), (.int (0 : Int32)), (.int (0 : Int32)), (.int (0 : Int32)), (.int (0 : Int32)), (.int (0 : Int32)), (.int (0 : Int32)), (.int (0 : Int32)), (.int (0 : Int32)), (.int (0 : Int32)), (.int (0 : Int32)), (.int (0 : Int32)), (.int (0 : Int32)), (.int (0 : Int32)), (.int (0 : Int32)), (.int (0 : Int32))] (.int (0 : Int32)) := Q521.other W528 (Ne.symm ne_b475_b1_493)
      have Q535 : Arv Z h528 b2_493 k2_493 .int (16 : Int32) [(.int (0 : Int32)), (.int (0 : Int32)), (.int (0 : Int32)), (.int (0 : Int32)), (.int (0 : Int32)), (.int (0 : Int32)), (.int (0 : Int32)), (.int (0 : Int32)), (.int (0 : Int32)), (.int (0 : Int32)), (.int (0 : Int32)), (.int (0 : Int32)), (.int (0 : Int32)), (.int (0 : Int32)), (.int (0 : Int32)), (.int (0 : Int32))] (.int (0 : Int32)) := Q522.other W528 (Ne.symm ne_b475_b2_493)
      have Q536 : Fld Z h528 b477 "com/example/axiomwright/axiomwright/Arcs" "size" "I" (.int (1 : Int32)) := Q523.other W528 (Or.inl (Ne.symm ne477_b475))
      have Q537 : Fld Z h528 b477 "com/example/axiomwright/axiomwright/Arcs" "from" "[I" (.ref b1_480) := Q524.other W528 (Or.inl (Ne.symm ne477_b475))
      have Q538 : Fld Z h528 b477 "com/example/axiomwright/axiomwright/Arcs" "to" "[I" (.ref b2_480) := Q525.other W528 (Or.inl (Ne.symm ne477_b475))
      have Q539 : Arv Z h528 b1_480 k1_480 .int (16 : Int32) [(.int p2), (.int (0 : Int32)), (.int (0 : Int32)), (.int (0 : Int32)), (.int (0 : Int32)), (.int (0 : Int32)), (.int (0 : Int32)), (.int (0 : Int32)), (.int (0 : Int32)), (.int (0 : Int32)), (.int (0 : Int32)), (.int (0 : Int32)), (.int (0 : Int32)), (.int (0 : Int32)), (.int (0 : Int32)), (.int (0 : Int32))] (.int (0 : Int32)) := Q526.other W528 (Ne.symm ne_b475_b1_480)
      have Q540 : Arv Z h528 b2_480 k2_480 .int (16 : Int32) [(.int p3), (.int (0 : Int32)), (.int (0 : Int32)), (.int (0 : Int32)), (.int (0 : Int32)), (.int (0 : Int32)), (.int (0 : Int32)), (.int (0 : Int32)), (.int (0 : Int32)), (.int (0 : Int32)), (.int (0 : Int32)), (.int (0 : Int32)), (.int (0 : Int32)), (.int (0 : Int32)), (.int (0 : Int32)), (.int (0 : Int32))] (.int (0 : Int32)) := Q527.other W528 (Ne.symm ne_b475_b2_480)
      have Q541 : Arv Z h528 b474 k474 .int (3 : Int32) [(.int p2), (.int (0 : Int32)), (.int (0 : Int32))] (.int (0 : Int32)) := U514.other W528 ne475_b474
      have U528 : Arv Z h528 b475 k475 .int (3 : Int32) [(.int p3), (.int (0 : Int32)), (.int (0 : Int32))] (.int (0 : Int32)) := Arv.set Ar528 q528 S528 M528 Ha528 G528 rfl W528 0 rfl (Nat.le_of_ble_eq_true rfl)
      have Z528 : n0 ≤ h528.size := Nat.le_trans Z514 (Keep.of_wr W528).1
      have N528 := Fr.snoc X528 N514 low475
      have K528 := K514.wr W528 (Or.inr sz475)
      refine own_go st528 ?_
      refine own_go (A := T528.setTop (mkF m 77 #[.val (.int p1), .val (.int p2), .val (.int p3), .val (.int p4), .val (.int p5), .val (.int p6), .val (.int (1 : Int32)), .val (.int (0 : Int32)), .val (.ref b474), .val (.ref b475), .val (.ref b477), .val (.ref b484), .val (.int (0 : Int32))] [])) (B := T528.setTop (mkF m 144 #[.val (.int p1), .val (.int p2), .val (.int p3), .val (.int p4), .val (.int p5), .val (.int p6), .val (.int (1 : Int32)), .val (.int (0 : Int32)), .val (.ref b474), .val (.ref b475), .val (.ref b477), .val (.ref b484), .val (.int (1 : Int32))] [(.ref b484), (.ref b477)])) (fun t k => ?_) ?_
      · show Steps p.tables e below (T528.setTop (mkF m 77 #[.val (.int p1), .val (.int p2), .val (.int p3), .val (.int p4), .val (.int p5), .val (.int p6), .val (.int (1 : Int32)), .val (.int (0 : Int32)), .val (.ref b474), .val (.ref b475), .val (.ref b477), .val (.ref b484), .val (.int (0 : Int32))] [])) _
        refine XS.iinc X528.here hx rfl (hb hby at_77) rfl (l' := #[.val (.int p1), .val (.int p2), .val (.int p3), .val (.int p4), .val (.int p5), .val (.int p6), .val (.int (1 : Int32)), .val (.int (0 : Int32)), .val (.ref b474), .val (.ref b475), .val (.ref b477), .val (.ref b484), .val (.int (1 : Int32))]) rfl ?_
        show Steps p.tables e below (T528.setTop (mkF m 80 #[.val (.int p1), .val (.int p2), .val (.int p3), .val (.int p4), .val (.int p5), .val (.int p6), .val (.int (1 : Int32)), .val (.int (0 : Int32)), .val (.ref b474), .val (.ref b475), .val (.ref b477), .val (.ref b484), .val (.int (1 : Int32))] [])) _
        refine XS.iload X528.here hx rfl (hb hby at_80) rfl ?_
        show Steps p.tables e below (T528.setTop (mkF m 82 #[.val (.int p1), .val (.int p2), .val (.int p3), .val (.int p4), .val (.int p5), .val (.int p6), .val (.int (1 : Int32)), .val (.int (0 : Int32)), .val (.ref b474), .val (.ref b475), .val (.ref b477), .val (.ref b484), .val (.int (1 : Int32))] [(.int (0 : Int32))])) _
        refine XS.iconst X528.here hx rfl (hb hby at_82) ?_
        show Steps p.tables e below (T528.setTop (mkF m 83 #[.val (.int p1), .val (.int p2), .val (.int p3), .val (.int p4), .val (.int p5), .val (.int p6), .val (.int (1 : Int32)), .val (.int (0 : Int32)), .val (.ref b474), .val (.ref b475), .val (.ref b477), .val (.ref b484), .val (.int (1 : Int32))] [(.int (1 : Int32)), (.int (0 : Int32))])) _
        refine XS.icmpYes X528.here hx rfl (pc0 := 83) (pc' := 110) rfl (hb hby at_83) rfl (tlt (by decide : ((0 : Int32) < (1 : Int32)))).1 (by decide) (by decide) ?_
        show Steps p.tables e below (T528.setTop (mkF m 110 #[.val (.int p1), .val (.int p2), .val (.int p3), .val (.int p4), .val (.int p5), .val (.int p6), .val (.int (1 : Int32)), .val (.int (0 : Int32)), .val (.ref b474), .val (.ref b475), .val (.ref b477), .val (.ref b484), .val (.int (1 : Int32))] [])) _
        refine XS.iload X528.here hx rfl (hb hby at_110) rfl ?_
        show Steps p.tables e below (T528.setTop (mkF m 112 #[.val (.int p1), .val (.int p2), .val (.int p3), .val (.int p4), .val (.int p5), .val (.int p6), .val (.int (1 : Int32)), .val (.int (0 : Int32)), .val (.ref b474), .val (.ref b475), .val (.ref b477), .val (.ref b484), .val (.int (1 : Int32))] [(.int (0 : Int32))])) _
        refine XS.iconst X528.here hx rfl (hb hby at_112) ?_
        show Steps p.tables e below (T528.setTop (mkF m 113 #[.val (.int p1), .val (.int p2), .val (.int p3), .val (.int p4), .val (.int p5), .val (.int p6), .val (.int (1 : Int32)), .val (.int (0 : Int32)), .val (.ref b474), .val (.ref b475), .val (.ref b477), .val (.ref b484), .val (.int (1 : Int32))] [(.int (2 : Int32)), (.int (0 : Int32))])) _
        refine XS.icmpYes X528.here hx rfl (pc0 := 113) (pc' := 140) rfl (hb hby at_113) rfl (tlt (by decide : ((0 : Int32) < (2 : Int32)))).1 (by decide) (by decide) ?_
        show Steps p.tables e below (T528.setTop (mkF m 140 #[.val (.int p1), .val (.int p2), .val (.int p3), .val (.int p4), .val (.int p5), .val (.int p6), .val (.int (1 : Int32)), .val (.int (0 : Int32)), .val (.ref b474), .val (.ref b475), .val (.ref b477), .val (.ref b484), .val (.int (1 : Int32))] [])) _
        refine XS.aload X528.here hx rfl (hb hby at_140) rfl rfl ?_
        show Steps p.tables e below (T528.setTop (mkF m 142 #[.val (.int p1), .val (.int p2), .val (.int p3), .val (.int p4), .val (.int p5), .val (.int p6), .val (.int (1 : Int32)), .val (.int (0 : Int32)), .val (.ref b474), .val (.ref b475), .val (.ref b477), .val (.ref b484), .val (.int (1 : Int32))] [(.ref b477)])) _
        refine XS.aload X528.here hx rfl (hb hby at_142) rfl rfl ?_
        exact k
      obtain ⟨cq544, kq544, q544a, q544b, q544c⟩ := isOf hZ e528 Q529
      obtain ⟨_, _, ⟨T544, L544, k544, n544⟩, -, X544, ⟨Lc544, hQ544, l544, y544, z544⟩, st544⟩ := X528.virtualBack hx (y := (⟨"com/example/axiomwright/axiomwright/Arcs", "addAll", "(Lcom/example/axiomwright/axiomwright/Arcs;)V"⟩ : MethodName)) (z := (⟨"com/example/axiomwright/axiomwright/Arcs", "addAll", "(Lcom/example/axiomwright/axiomwright/Arcs;)V"⟩ : MethodName)) hown (mvT hZ (hw _ (List.mem_of_getElem? (i := 14) rfl))) (mvT hZ (hw _ (List.mem_of_getElem? (i := 15) rfl))) (notFace_of_selects (args := #[]) (mvT hZ (hw _ (List.mem_of_getElem? (i := 17) rfl)))) (mvT hZ (hw _ (List.mem_of_getElem? (i := 17) rfl))) (mvT hZ (hw _ (List.mem_of_getElem? (i := 16) rfl))) (by decide) (backOf (W := 0) (rm3_1_0 l Z a0 hw [] b477 b484 b1_480 b2_480 b1_493 b2_493 k1_480 k2_480 k1_493 k2_493 p2 (0 : Int32) (0 : Int32) (0 : Int32) (0 : Int32) (0 : Int32) (0 : Int32) (0 : Int32) (0 : Int32) (0 : Int32) (0 : Int32) (0 : Int32) (0 : Int32) (0 : Int32) (0 : Int32) (0 : Int32) p3 (0 : Int32) (0 : Int32) (0 : Int32) (0 : Int32) (0 : Int32) (0 : Int32) (0 : Int32) (0 : Int32) (0 : Int32) (0 : Int32) (0 : Int32) (0 : Int32) (0 : Int32) (0 : Int32) (0 : Int32) (0 : Int32) (0 : Int32) (0 : Int32) (0 : Int32) (0 : Int32) (0 : Int32) (0 : Int32) (0 : Int32) (0 : Int32) (0 : Int32) (0 : Int32) (0 : Int32) (0 : Int32) (0 : Int32) (0 : Int32) (0 : Int32) (0 : Int32) (0 : Int32) (0 : Int32) (0 : Int32) (0 : Int32) (0 : Int32) (0 : Int32) (0 : Int32) (0 : Int32) (0 : Int32) (0 : Int32) (0 : Int32) (0 : Int32) (0 : Int32) (0 : Int32) (0 : Int32) h528 n0 Z528 Q529 Q536 Q537 Q538 Q539 Q540 Q533 Q531 Q532 Q534 Q535 low477 low_b1_480 low_b2_480 ne_b477_b1_480 ne_b477_b2_480 pq480_0 (Ne.symm ne484_b477) (Ne.symm ne484_b1_480) (Ne.symm ne484_b2_480) (Ne.symm ne_b477_b1_493) (Ne.symm ne_b1_480_b1_493) (Ne.symm ne_b2_480_b1_493) (Ne.symm ne_b477_b2_493) (Ne.symm ne_b1_480_b2_493) (Ne.symm ne_b2_480_b2_493)) hZ (hw _ (List.mem_of_getElem? (i := 18) rfl)) (hw _ (List.mem_of_getElem? (i := 3) rfl)) (by decide) (by decide)) q544a q544c (g := (mkF m 144 #[.val (.int p1), .val (.int p2), .val (.int p3), .val (.int p4), .val (.int p5), .val (.int p6), .val (.int (1 : Int32)), .val (.int (0 : Int32)), .val (.ref b474), .val (.ref b475), .val (.ref b477), .val (.ref b484), .val (.int (1 : Int32))] [(.ref b484), (.ref b477)])) rfl (by rw [hml]; rfl) (Steps.refl _) (argsL := [(.ref b484)]) (rest := []) (lenOf pd_3 rfl) rfl (by show 2 * 0 + _ ≤ _; exact Nat.le_of_eq rfl) (hb hby at_144) (fun _ _ => ⟨rfl, e528, (by decide : 8 + 0 ≤ _), (by decide : 76 + 0 ≤ _)⟩)
      dsimp only [Pt.U, Pt.locs, Pt.cells, Pt.slots] at X544 l544 y544 z544 st544 hQ544
      subst l544 y544 z544
      obtain ⟨rfl, Nq544, Kq544, U544_0, U544_1, U544_2, U544_3, U544_4⟩ := hQ544
      have Q545 : Exa Z T544.heap b477 "com/example/axiomwright/axiomwright/Arcs" := Q529.keep Kq544
      have Q546 : Exa Z T544.heap b484 "com/example/axiomwright/axiomwright/Arcs" := Q530.keep Kq544
      have Q547 : Fld Z T544.heap b484 "com/example/axiomwright/axiomwright/Arcs" "from" "[I" (.ref b1_493) := Q531.keep Kq544 (ninS (Ne.symm ne484_b477) (ninS (Ne.symm ne484_b1_480) (ninS (Ne.symm ne484_b2_480) nin0)))
      have Q548 : Fld Z T544.heap b484 "com/example/axiomwright/axiomwright/Arcs" "to" "[I" (.ref b2_493) := Q532.keep Kq544 (ninS (Ne.symm ne484_b477) (ninS (Ne.symm ne484_b1_480) (ninS (Ne.symm ne484_b2_480) nin0)))
      have Q549 : Fld Z T544.heap b484 "com/example/axiomwright/axiomwright/Arcs" "size" "I" (.int (0 : Int32)) := Q533.keep Kq544 (ninS (Ne.symm ne484_b477) (ninS (Ne.symm ne484_b1_480) (ninS (Ne.symm ne484_b2_480) nin0)))
      have Q550 : Arv Z T544.heap b1_493 k1_493 .int (16 : Int32) [(.int (0 : Int32)), (.int (0 : Int32)), (.int (0 : Int32)), (.int (0 : Int32)), (.int (0 : Int32)), (.int (0 : Int32)), (.int (0 : Int32)), (.int (0 : Int32)), (.int (0 : Int32)), (.int (0 : Int32)), (.int (0 : Int32)), (.int (0 : Int32)), (.int (0 : Int32)), (.int (0 : Int32)), (.int (0 : Int32)), (.int (0 : Int32))] (.int (0 : Int32)) := Q534.keep Kq544 (ninS (Ne.symm ne_b477_b1_493) (ninS (Ne.symm ne_b1_480_b1_493) (ninS (Ne.symm ne_b2_480_b1_493) nin0)))
      have Q551 : Arv Z T544.heap b2_493 k2_493 .int (16 : Int32) [(.int (0 : Int32)), (.int (0 : Int32)), (.int (0 : Int32)), (.int (0 : Int32)), (.int (0 : Int32)), (.int (0 : Int32)), (.int (0 : Int32)), (.int (0 : Int32)), (.int (0 : Int32)), (.int (0 : Int32)), (.int (0 : Int32)), (.int (0 : Int32)), (.int (0 : Int32)), (.int (0 : Int32)), (.int (0 : Int32)), (.int (0 : Int32))] (.int (0 : Int32)) := Q535.keep Kq544 (ninS (Ne.symm ne_b477_b2_493) (ninS (Ne.symm ne_b1_480_b2_493) (ninS (Ne.symm ne_b2_480_b2_493) nin0)))
      have Q552 : Arv Z T544.heap b474 k474 .int (3 : Int32) [(.int p2), (.int (0 : Int32)), (.int (0 : Int32))] (.int (0 : Int32)) := Q541.keep Kq544 (ninS ne477_b474 (ninS ne_b474_b1_480 (ninS ne_b474_b2_480 nin0)))
      have Q553 : Arv Z T544.heap b475 k475 .int (3 : Int32) [(.int p3), (.int (0 : Int32)), (.int (0 : Int32))] (.int (0 : Int32)) := U528.keep Kq544 (ninS ne477_b475 (ninS ne_b475_b1_480 (ninS ne_b475_b2_480 nin0)))
      have Z544 : n0 ≤ T544.heap.size := Nat.le_trans Z528 Kq544.1
      have K544 : Keep h0 T544.heap [] := K528.trans Kq544 (allS (Or.inr sz477) (allS (Or.inr sz_b1_480) (allS (Or.inr sz_b2_480) all0)))
      have N544 := Fr.app N528 Nq544
      refine own_go (A := _) (B := T544.setTop (mkF m 147 #[.val (.int p1), .val (.int p2), .val (.int p3), .val (.int p4), .val (.int p5), .val (.int p6), .val (.int (1 : Int32)), .val (.int (0 : Int32)), .val (.ref b474), .val (.ref b475), .val (.ref b477), .val (.ref b484), .val (.int (1 : Int32))] [])) (fun t k => st544.trans k) ?_
      refine own_go (A := T544.setTop (mkF m 147 #[.val (.int p1), .val (.int p2), .val (.int p3), .val (.int p4), .val (.int p5), .val (.int p6), .val (.int (1 : Int32)), .val (.int (0 : Int32)), .val (.ref b474), .val (.ref b475), .val (.ref b477), .val (.ref b484), .val (.int (1 : Int32))] [])) (B := T544.setTop (mkF m 149 #[.val (.int p1), .val (.int p2), .val (.int p3), .val (.int p4), .val (.int p5), .val (.int p6), .val (.int (1 : Int32)), .val (.int (0 : Int32)), .val (.ref b474), .val (.ref b475), .val (.ref b477), .val (.ref b484), .val (.int (1 : Int32))] [(.ref b477)])) (fun t k => ?_) ?_
      · show Steps p.tables e below (T544.setTop (mkF m 147 #[.val (.int p1), .val (.int p2), .val (.int p3), .val (.int p4), .val (.int p5), .val (.int p6), .val (.int (1 : Int32)), .val (.int (0 : Int32)), .val (.ref b474), .val (.ref b475), .val (.ref b477), .val (.ref b484), .val (.int (1 : Int32))] [])) _
        refine XS.aload X544.here hx rfl (hb hby at_147) rfl rfl ?_
        exact k
      obtain ⟨cq554, kq554, q554a, q554b, q554c⟩ := isOf hZ rfl Q545
      obtain ⟨_, _, ⟨T554, L554, k554, n554⟩, -, X554, ⟨Lc554, hQ554, l554, y554, z554⟩, st554⟩ := X544.virtualBack hx (y := (⟨"com/example/axiomwright/axiomwright/Arcs", "size", "()I"⟩ : MethodName)) (z := (⟨"com/example/axiomwright/axiomwright/Arcs", "size", "()I"⟩ : MethodName)) hown (mvT hZ (hw _ (List.mem_of_getElem? (i := 21) rfl))) (mvT hZ (hw _ (List.mem_of_getElem? (i := 22) rfl))) (notFace_of_selects (args := #[]) (mvT hZ (hw _ (List.mem_of_getElem? (i := 24) rfl)))) (mvT hZ (hw _ (List.mem_of_getElem? (i := 24) rfl))) (mvT hZ (hw _ (List.mem_of_getElem? (i := 23) rfl))) (by decide) (backOf (W := 0) (rm4 l Z a0 hw [] b477 (1 : Int32) T544.heap n0 Z544 U544_0) hZ (hw _ (List.mem_of_getElem? (i := 25) rfl)) (hw _ (List.mem_of_getElem? (i := 3) rfl)) (by decide) (by decide)) q554a q554c (g := (mkF m 149 #[.val (.int p1), .val (.int p2), .val (.int p3), .val (.int p4), .val (.int p5), .val (.int p6), .val (.int (1 : Int32)), .val (.int (0 : Int32)), .val (.ref b474), .val (.ref b475), .val (.ref b477), .val (.ref b484), .val (.int (1 : Int32))] [(.ref b477)])) rfl (by rw [hml]; rfl) (Steps.refl _) (argsL := []) (rest := []) (lenOf pd_4 rfl) rfl (by show 2 * 0 + _ ≤ _; exact Nat.le_of_eq rfl) (hb hby at_149) (fun _ _ => ⟨rfl, rfl, (by decide : 8 + 0 ≤ _), (by decide : 76 + 0 ≤ _)⟩)
      dsimp only [Pt.U, Pt.locs, Pt.cells, Pt.slots] at X554 l554 y554 z554 st554 hQ554
      subst l554 y554 z554
      obtain ⟨rfl, Nq554, e554⟩ := hQ554
      have N554 := Fr.app N544 Nq554
      refine own_go (A := _) (B := T554.setTop (mkF m 152 #[.val (.int p1), .val (.int p2), .val (.int p3), .val (.int p4), .val (.int p5), .val (.int p6), .val (.int (1 : Int32)), .val (.int (0 : Int32)), .val (.ref b474), .val (.ref b475), .val (.ref b477), .val (.ref b484), .val (.int (1 : Int32))] [(.int (1 : Int32))])) (fun t k => st554.trans k) ?_
      refine own_go (A := T554.setTop (mkF m 152 #[.val (.int p1), .val (.int p2), .val (.int p3), .val (.int p4), .val (.int p5), .val (.int p6), .val (.int (1 : Int32)), .val (.int (0 : Int32)), .val (.ref b474), .val (.ref b475), .val (.ref b477), .val (.ref b484), .val (.int (1 : Int32))] [(.int (1 : Int32))])) (B := T554.setTop (mkF m 161 #[.val (.int p1), .val (.int p2), .val (.int p3), .val (.int p4), .val (.int p5), .val (.int p6), .val (.int (1 : Int32)), .val (.int (0 : Int32)), .val (.ref b474), .val (.ref b475), .val (.ref b477), .val (.ref b484), .val (.int (1 : Int32))] [(.ref b484)])) (fun t k => ?_) ?_
      · show Steps p.tables e below (T554.setTop (mkF m 152 #[.val (.int p1), .val (.int p2), .val (.int p3), .val (.int p4), .val (.int p5), .val (.int p6), .val (.int (1 : Int32)), .val (.int (0 : Int32)), .val (.ref b474), .val (.ref b475), .val (.ref b477), .val (.ref b484), .val (.int (1 : Int32))] [(.int (1 : Int32))])) _
        refine XS.iload X554.here hx rfl (hb hby at_152) rfl ?_
        show Steps p.tables e below (T554.setTop (mkF m 154 #[.val (.int p1), .val (.int p2), .val (.int p3), .val (.int p4), .val (.int p5), .val (.int p6), .val (.int (1 : Int32)), .val (.int (0 : Int32)), .val (.ref b474), .val (.ref b475), .val (.ref b477), .val (.ref b484), .val (.int (1 : Int32))] [(.int (1 : Int32)), (.int (1 : Int32))])) _
        refine XS.icmpYes X554.here hx rfl (pc0 := 154) (pc' := 159) rfl (hb hby at_154) rfl (teq (rfl : (1 : Int32) = (1 : Int32))).1 (by decide) (by decide) ?_
        show Steps p.tables e below (T554.setTop (mkF m 159 #[.val (.int p1), .val (.int p2), .val (.int p3), .val (.int p4), .val (.int p5), .val (.int p6), .val (.int (1 : Int32)), .val (.int (0 : Int32)), .val (.ref b474), .val (.ref b475), .val (.ref b477), .val (.ref b484), .val (.int (1 : Int32))] [])) _
        refine XS.aload X554.here hx rfl (hb hby at_159) rfl rfl ?_
        exact k
      obtain ⟨cq556, kq556, q556a, q556b, q556c⟩ := isOf hZ e554 Q546
      obtain ⟨_, _, ⟨T556, L556, k556, n556⟩, -, X556, ⟨Lc556, hQ556, l556, y556, z556⟩, st556⟩ := X554.virtualBack hx (y := (⟨"com/example/axiomwright/axiomwright/Arcs", "size", "()I"⟩ : MethodName)) (z := (⟨"com/example/axiomwright/axiomwright/Arcs", "size", "()I"⟩ : MethodName)) hown (mvT hZ (hw _ (List.mem_of_getElem? (i := 21) rfl))) (mvT hZ (hw _ (List.mem_of_getElem? (i := 22) rfl))) (notFace_of_selects (args := #[]) (mvT hZ (hw _ (List.mem_of_getElem? (i := 24) rfl)))) (mvT hZ (hw _ (List.mem_of_getElem? (i := 24) rfl))) (mvT hZ (hw _ (List.mem_of_getElem? (i := 23) rfl))) (by decide) (backOf (W := 0) (rm4 l Z a0 hw [] b484 (0 : Int32) T544.heap n0 Z544 Q549) hZ (hw _ (List.mem_of_getElem? (i := 25) rfl)) (hw _ (List.mem_of_getElem? (i := 3) rfl)) (by decide) (by decide)) q556a q556c (g := (mkF m 161 #[.val (.int p1), .val (.int p2), .val (.int p3), .val (.int p4), .val (.int p5), .val (.int p6), .val (.int (1 : Int32)), .val (.int (0 : Int32)), .val (.ref b474), .val (.ref b475), .val (.ref b477), .val (.ref b484), .val (.int (1 : Int32))] [(.ref b484)])) rfl (by rw [hml]; rfl) (Steps.refl _) (argsL := []) (rest := []) (lenOf pd_4 rfl) rfl (by show 2 * 0 + _ ≤ _; exact Nat.le_of_eq rfl) (hb hby at_161) (fun _ _ => ⟨rfl, e554, (by decide : 8 + 0 ≤ _), (by decide : 76 + 0 ≤ _)⟩)
      dsimp only [Pt.U, Pt.locs, Pt.cells, Pt.slots] at X556 l556 y556 z556 st556 hQ556
      subst l556 y556 z556
      obtain ⟨rfl, Nq556, e556⟩ := hQ556
      have N556 := Fr.app N554 Nq556
      refine own_go (A := _) (B := T556.setTop (mkF m 164 #[.val (.int p1), .val (.int p2), .val (.int p3), .val (.int p4), .val (.int p5), .val (.int p6), .val (.int (1 : Int32)), .val (.int (0 : Int32)), .val (.ref b474), .val (.ref b475), .val (.ref b477), .val (.ref b484), .val (.int (1 : Int32))] [(.int (0 : Int32))])) (fun t k => st556.trans k) ?_
      refine own_go (A := T556.setTop (mkF m 164 #[.val (.int p1), .val (.int p2), .val (.int p3), .val (.int p4), .val (.int p5), .val (.int p6), .val (.int (1 : Int32)), .val (.int (0 : Int32)), .val (.ref b474), .val (.ref b475), .val (.ref b477), .val (.ref b484), .val (.int (1 : Int32))] [(.int (0 : Int32))])) (B := T556.setTop (mkF m 180 #[.val (.int p1), .val (.int p2), .val (.int p3), .val (.int p4), .val (.int p5), .val (.int p6), .val (.int (1 : Int32)), .val (.int (0 : Int32)), .val (.ref b474), .val (.ref b475), .val (.ref b477), .val (.ref b484), .val (.int (1 : Int32))] [(.ref b475), (.ref b474), (.int (1 : Int32)), (.int (0 : Int32)), (.ref b477)])) (fun t k => ?_) ?_
      · show Steps p.tables e below (T556.setTop (mkF m 164 #[.val (.int p1), .val (.int p2), .val (.int p3), .val (.int p4), .val (.int p5), .val (.int p6), .val (.int (1 : Int32)), .val (.int (0 : Int32)), .val (.ref b474), .val (.ref b475), .val (.ref b477), .val (.ref b484), .val (.int (1 : Int32))] [(.int (0 : Int32))])) _
        refine XS.iload X556.here hx rfl (hb hby at_164) rfl ?_
        show Steps p.tables e below (T556.setTop (mkF m 166 #[.val (.int p1), .val (.int p2), .val (.int p3), .val (.int p4), .val (.int p5), .val (.int p6), .val (.int (1 : Int32)), .val (.int (0 : Int32)), .val (.ref b474), .val (.ref b475), .val (.ref b477), .val (.ref b484), .val (.int (1 : Int32))] [(.int (0 : Int32)), (.int (0 : Int32))])) _
        refine XS.icmpYes X556.here hx rfl (pc0 := 166) (pc' := 171) rfl (hb hby at_166) rfl (teq (rfl : (0 : Int32) = (0 : Int32))).1 (by decide) (by decide) ?_
        show Steps p.tables e below (T556.setTop (mkF m 171 #[.val (.int p1), .val (.int p2), .val (.int p3), .val (.int p4), .val (.int p5), .val (.int p6), .val (.int (1 : Int32)), .val (.int (0 : Int32)), .val (.ref b474), .val (.ref b475), .val (.ref b477), .val (.ref b484), .val (.int (1 : Int32))] [])) _
        refine XS.aload X556.here hx rfl (hb hby at_171) rfl rfl ?_
        show Steps p.tables e below (T556.setTop (mkF m 173 #[.val (.int p1), .val (.int p2), .val (.int p3), .val (.int p4), .val (.int p5), .val (.int p6), .val (.int (1 : Int32)), .val (.int (0 : Int32)), .val (.ref b474), .val (.ref b475), .val (.ref b477), .val (.ref b484), .val (.int (1 : Int32))] [(.ref b477)])) _
        refine XS.iconst X556.here hx rfl (hb hby at_173) ?_
        show Steps p.tables e below (T556.setTop (mkF m 174 #[.val (.int p1), .val (.int p2), .val (.int p3), .val (.int p4), .val (.int p5), .val (.int p6), .val (.int (1 : Int32)), .val (.int (0 : Int32)), .val (.ref b474), .val (.ref b475), .val (.ref b477), .val (.ref b484), .val (.int (1 : Int32))] [(.int (0 : Int32)), (.ref b477)])) _
        refine XS.iload X556.here hx rfl (hb hby at_174) rfl ?_
        show Steps p.tables e below (T556.setTop (mkF m 176 #[.val (.int p1), .val (.int p2), .val (.int p3), .val (.int p4), .val (.int p5), .val (.int p6), .val (.int (1 : Int32)), .val (.int (0 : Int32)), .val (.ref b474), .val (.ref b475), .val (.ref b477), .val (.ref b484), .val (.int (1 : Int32))] [(.int (1 : Int32)), (.int (0 : Int32)), (.ref b477)])) _
        refine XS.aload X556.here hx rfl (hb hby at_176) rfl rfl ?_
        show Steps p.tables e below (T556.setTop (mkF m 178 #[.val (.int p1), .val (.int p2), .val (.int p3), .val (.int p4), .val (.int p5), .val (.int p6), .val (.int (1 : Int32)), .val (.int (0 : Int32)), .val (.ref b474), .val (.ref b475), .val (.ref b477), .val (.ref b484), .val (.int (1 : Int32))] [(.ref b474), (.int (1 : Int32)), (.int (0 : Int32)), (.ref b477)])) _
        refine XS.aload X556.here hx rfl (hb hby at_178) rfl rfl ?_
        exact k
      obtain ⟨_, _, ⟨T558, L558, k558, n558⟩, -, X558, ⟨Lc558, hQ558, l558, y558, z558⟩, st558⟩ := Jvm.LawKit.callS X556 hx (y := (⟨"com/example/axiomwright/axiomwright/ArcsAddAllPinLaw", "at", "(Lcom/example/axiomwright/axiomwright/Arcs;II[I[I)Z"⟩ : MethodName)) hown (mvT hZ (hw _ (List.mem_of_getElem? (i := 26) rfl))) (mvT hZ (hw _ (List.mem_of_getElem? (i := 27) rfl))) (mvT hZ (hw _ (List.mem_of_getElem? (i := 28) rfl))) (mvT hZ (hw _ (List.mem_of_getElem? (i := 29) rfl))) (by decide) (backOf (W := 0) (rm5_0_1 l Z a0 hw [] b477 b474 b475 b1_480 b2_480 k1_480 k2_480 k474 k475 p2 (0 : Int32) (0 : Int32) (0 : Int32) (0 : Int32) (0 : Int32) (0 : Int32) (0 : Int32) (0 : Int32) (0 : Int32) (0 : Int32) (0 : Int32) (0 : Int32) (0 : Int32) (0 : Int32) (0 : Int32) p3 (0 : Int32) (0 : Int32) (0 : Int32) (0 : Int32) (0 : Int32) (0 : Int32) (0 : Int32) (0 : Int32) (0 : Int32) (0 : Int32) (0 : Int32) (0 : Int32) (0 : Int32) (0 : Int32) (0 : Int32) p2 (0 : Int32) (0 : Int32) p3 (0 : Int32) (0 : Int32) T544.heap n0 Z544 Q545 U544_1 U544_2 U544_3 U544_4 Q552 Q553) hZ (hw _ (List.mem_of_getElem? (i := 29) rfl)) (hw _ (List.mem_of_getElem? (i := 28) rfl)) (by decide) (by decide)) (g := (mkF m 180 #[.val (.int p1), .val (.int p2), .val (.int p3), .val (.int p4), .val (.int p5), .val (.int p6), .val (.int (1 : Int32)), .val (.int (0 : Int32)), .val (.ref b474), .val (.ref b475), .val (.ref b477), .val (.ref b484), .val (.int (1 : Int32))] [(.ref b475), (.ref b474), (.int (1 : Int32)), (.int (0 : Int32)), (.ref b477)])) rfl (by rw [hml]; rfl) (argsL := [(.ref b477), (.int (0 : Int32)), (.int (1 : Int32)), (.ref b474), (.ref b475)]) (rest := []) (lenOf pd_5 rfl) rfl (by show 2 * 0 + _ ≤ _; exact Nat.le_of_eq rfl) (hb hby at_180) (fun _ _ => ⟨rfl, e556, (by decide : 8 + 0 ≤ _), (by decide : 76 + 0 ≤ _)⟩)
      dsimp only [Pt.U, Pt.locs, Pt.cells, Pt.slots] at X558 l558 y558 z558 st558 hQ558
      subst l558 y558 z558
      obtain ⟨rfl, Nq558, e558⟩ := hQ558
      have N558 := Fr.app N556 Nq558
      refine own_go (A := _) (B := T558.setTop (mkF m 183 #[.val (.int p1), .val (.int p2), .val (.int p3), .val (.int p4), .val (.int p5), .val (.int p6), .val (.int (1 : Int32)), .val (.int (0 : Int32)), .val (.ref b474), .val (.ref b475), .val (.ref b477), .val (.ref b484), .val (.int (1 : Int32))] [(.int (frm5_0_1 p2 p3 p2 p3))])) st558 ?_
      have hc183_559 : ¬ ((frm5_0_1 p2 p3 p2 p3) = (0 : Int32)) := by simp [frm5_0_1]
      refine own_go (A := T558.setTop (mkF m 183 #[.val (.int p1), .val (.int p2), .val (.int p3), .val (.int p4), .val (.int p5), .val (.int p6), .val (.int (1 : Int32)), .val (.int (0 : Int32)), .val (.ref b474), .val (.ref b475), .val (.ref b477), .val (.ref b484), .val (.int (1 : Int32))] [(.int (frm5_0_1 p2 p3 p2 p3))])) (B := T558.setTop (mkF m 195 #[.val (.int p1), .val (.int p2), .val (.int p3), .val (.int p4), .val (.int p5), .val (.int p6), .val (.int (1 : Int32)), .val (.int (0 : Int32)), .val (.ref b474), .val (.ref b475), .val (.ref b477), .val (.ref b484), .val (.int (1 : Int32))] [(.ref b475), (.ref b474), (.int (1 : Int32)), (.int (1 : Int32)), (.ref b477)])) (fun t k => ?_) ?_
      · show Steps p.tables e below (T558.setTop (mkF m 183 #[.val (.int p1), .val (.int p2), .val (.int p3), .val (.int p4), .val (.int p5), .val (.int p6), .val (.int (1 : Int32)), .val (.int (0 : Int32)), .val (.ref b474), .val (.ref b475), .val (.ref b477), .val (.ref b484), .val (.int (1 : Int32))] [(.int (frm5_0_1 p2 p3 p2 p3))])) _
        refine XS.ifNo X558.here hx rfl (hb hby at_183) rfl ((if0 _ _).trans (feq hc183_559).1) ?_
        show Steps p.tables e below (T558.setTop (mkF m 186 #[.val (.int p1), .val (.int p2), .val (.int p3), .val (.int p4), .val (.int p5), .val (.int p6), .val (.int (1 : Int32)), .val (.int (0 : Int32)), .val (.ref b474), .val (.ref b475), .val (.ref b477), .val (.ref b484), .val (.int (1 : Int32))] [])) _
        refine XS.aload X558.here hx rfl (hb hby at_186) rfl rfl ?_
        show Steps p.tables e below (T558.setTop (mkF m 188 #[.val (.int p1), .val (.int p2), .val (.int p3), .val (.int p4), .val (.int p5), .val (.int p6), .val (.int (1 : Int32)), .val (.int (0 : Int32)), .val (.ref b474), .val (.ref b475), .val (.ref b477), .val (.ref b484), .val (.int (1 : Int32))] [(.ref b477)])) _
        refine XS.iconst X558.here hx rfl (hb hby at_188) ?_
        show Steps p.tables e below (T558.setTop (mkF m 189 #[.val (.int p1), .val (.int p2), .val (.int p3), .val (.int p4), .val (.int p5), .val (.int p6), .val (.int (1 : Int32)), .val (.int (0 : Int32)), .val (.ref b474), .val (.ref b475), .val (.ref b477), .val (.ref b484), .val (.int (1 : Int32))] [(.int (1 : Int32)), (.ref b477)])) _
        refine XS.iload X558.here hx rfl (hb hby at_189) rfl ?_
        show Steps p.tables e below (T558.setTop (mkF m 191 #[.val (.int p1), .val (.int p2), .val (.int p3), .val (.int p4), .val (.int p5), .val (.int p6), .val (.int (1 : Int32)), .val (.int (0 : Int32)), .val (.ref b474), .val (.ref b475), .val (.ref b477), .val (.ref b484), .val (.int (1 : Int32))] [(.int (1 : Int32)), (.int (1 : Int32)), (.ref b477)])) _
        refine XS.aload X558.here hx rfl (hb hby at_191) rfl rfl ?_
        show Steps p.tables e below (T558.setTop (mkF m 193 #[.val (.int p1), .val (.int p2), .val (.int p3), .val (.int p4), .val (.int p5), .val (.int p6), .val (.int (1 : Int32)), .val (.int (0 : Int32)), .val (.ref b474), .val (.ref b475), .val (.ref b477), .val (.ref b484), .val (.int (1 : Int32))] [(.ref b474), (.int (1 : Int32)), (.int (1 : Int32)), (.ref b477)])) _
        refine XS.aload X558.here hx rfl (hb hby at_193) rfl rfl ?_
        exact k
      obtain ⟨_, _, ⟨T560, L560, k560, n560⟩, -, X560, ⟨Lc560, hQ560, l560, y560, z560⟩, st560⟩ := Jvm.LawKit.callS X558 hx (y := (⟨"com/example/axiomwright/axiomwright/ArcsAddAllPinLaw", "at", "(Lcom/example/axiomwright/axiomwright/Arcs;II[I[I)Z"⟩ : MethodName)) hown (mvT hZ (hw _ (List.mem_of_getElem? (i := 26) rfl))) (mvT hZ (hw _ (List.mem_of_getElem? (i := 27) rfl))) (mvT hZ (hw _ (List.mem_of_getElem? (i := 28) rfl))) (mvT hZ (hw _ (List.mem_of_getElem? (i := 29) rfl))) (by decide) (backOf (W := 0) (rm5_1_1 l Z a0 hw [] b477 b474 b475 T544.heap n0 Z544 ) hZ (hw _ (List.mem_of_getElem? (i := 29) rfl)) (hw _ (List.mem_of_getElem? (i := 28) rfl)) (by decide) (by decide)) (g := (mkF m 195 #[.val (.int p1), .val (.int p2), .val (.int p3), .val (.int p4), .val (.int p5), .val (.int p6), .val (.int (1 : Int32)), .val (.int (0 : Int32)), .val (.ref b474), .val (.ref b475), .val (.ref b477), .val (.ref b484), .val (.int (1 : Int32))] [(.ref b475), (.ref b474), (.int (1 : Int32)), (.int (1 : Int32)), (.ref b477)])) rfl (by rw [hml]; rfl) (argsL := [(.ref b477), (.int (1 : Int32)), (.int (1 : Int32)), (.ref b474), (.ref b475)]) (rest := []) (lenOf pd_5 rfl) rfl (by show 2 * 0 + _ ≤ _; exact Nat.le_of_eq rfl) (hb hby at_195) (fun _ _ => ⟨rfl, e558, (by decide : 8 + 0 ≤ _), (by decide : 76 + 0 ≤ _)⟩)
      dsimp only [Pt.U, Pt.locs, Pt.cells, Pt.slots] at X560 l560 y560 z560 st560 hQ560
      subst l560 y560 z560
      obtain ⟨rfl, Nq560, e560⟩ := hQ560
      have N560 := Fr.app N558 Nq560
      refine own_go (A := _) (B := T560.setTop (mkF m 198 #[.val (.int p1), .val (.int p2), .val (.int p3), .val (.int p4), .val (.int p5), .val (.int p6), .val (.int (1 : Int32)), .val (.int (0 : Int32)), .val (.ref b474), .val (.ref b475), .val (.ref b477), .val (.ref b484), .val (.int (1 : Int32))] [(.int (1 : Int32))])) st560 ?_
      refine own_go (A := T560.setTop (mkF m 198 #[.val (.int p1), .val (.int p2), .val (.int p3), .val (.int p4), .val (.int p5), .val (.int p6), .val (.int (1 : Int32)), .val (.int (0 : Int32)), .val (.ref b474), .val (.ref b475), .val (.ref b477), .val (.ref b484), .val (.int (1 : Int32))] [(.int (1 : Int32))])) (B := T560.setTop (mkF m 210 #[.val (.int p1), .val (.int p2), .val (.int p3), .val (.int p4), .val (.int p5), .val (.int p6), .val (.int (1 : Int32)), .val (.int (0 : Int32)), .val (.ref b474), .val (.ref b475), .val (.ref b477), .val (.ref b484), .val (.int (1 : Int32))] [(.ref b475), (.ref b474), (.int (1 : Int32)), (.int (2 : Int32)), (.ref b477)])) (fun t k => ?_) ?_
      · show Steps p.tables e below (T560.setTop (mkF m 198 #[.val (.int p1), .val (.int p2), .val (.int p3), .val (.int p4), .val (.int p5), .val (.int p6), .val (.int (1 : Int32)), .val (.int (0 : Int32)), .val (.ref b474), .val (.ref b475), .val (.ref b477), .val (.ref b484), .val (.int (1 : Int32))] [(.int (1 : Int32))])) _
        refine XS.ifNo X560.here hx rfl (hb hby at_198) rfl ((if0 _ _).trans (feq (by decide : ¬ ((1 : Int32) = (0 : Int32)))).1) ?_
        show Steps p.tables e below (T560.setTop (mkF m 201 #[.val (.int p1), .val (.int p2), .val (.int p3), .val (.int p4), .val (.int p5), .val (.int p6), .val (.int (1 : Int32)), .val (.int (0 : Int32)), .val (.ref b474), .val (.ref b475), .val (.ref b477), .val (.ref b484), .val (.int (1 : Int32))] [])) _
        refine XS.aload X560.here hx rfl (hb hby at_201) rfl rfl ?_
        show Steps p.tables e below (T560.setTop (mkF m 203 #[.val (.int p1), .val (.int p2), .val (.int p3), .val (.int p4), .val (.int p5), .val (.int p6), .val (.int (1 : Int32)), .val (.int (0 : Int32)), .val (.ref b474), .val (.ref b475), .val (.ref b477), .val (.ref b484), .val (.int (1 : Int32))] [(.ref b477)])) _
        refine XS.iconst X560.here hx rfl (hb hby at_203) ?_
        show Steps p.tables e below (T560.setTop (mkF m 204 #[.val (.int p1), .val (.int p2), .val (.int p3), .val (.int p4), .val (.int p5), .val (.int p6), .val (.int (1 : Int32)), .val (.int (0 : Int32)), .val (.ref b474), .val (.ref b475), .val (.ref b477), .val (.ref b484), .val (.int (1 : Int32))] [(.int (2 : Int32)), (.ref b477)])) _
        refine XS.iload X560.here hx rfl (hb hby at_204) rfl ?_
        show Steps p.tables e below (T560.setTop (mkF m 206 #[.val (.int p1), .val (.int p2), .val (.int p3), .val (.int p4), .val (.int p5), .val (.int p6), .val (.int (1 : Int32)), .val (.int (0 : Int32)), .val (.ref b474), .val (.ref b475), .val (.ref b477), .val (.ref b484), .val (.int (1 : Int32))] [(.int (1 : Int32)), (.int (2 : Int32)), (.ref b477)])) _
        refine XS.aload X560.here hx rfl (hb hby at_206) rfl rfl ?_
        show Steps p.tables e below (T560.setTop (mkF m 208 #[.val (.int p1), .val (.int p2), .val (.int p3), .val (.int p4), .val (.int p5), .val (.int p6), .val (.int (1 : Int32)), .val (.int (0 : Int32)), .val (.ref b474), .val (.ref b475), .val (.ref b477), .val (.ref b484), .val (.int (1 : Int32))] [(.ref b474), (.int (1 : Int32)), (.int (2 : Int32)), (.ref b477)])) _
        refine XS.aload X560.here hx rfl (hb hby at_208) rfl rfl ?_
        exact k
      obtain ⟨_, _, ⟨T562, L562, k562, n562⟩, -, X562, ⟨Lc562, hQ562, l562, y562, z562⟩, st562⟩ := Jvm.LawKit.callS X560 hx (y := (⟨"com/example/axiomwright/axiomwright/ArcsAddAllPinLaw", "at", "(Lcom/example/axiomwright/axiomwright/Arcs;II[I[I)Z"⟩ : MethodName)) hown (mvT hZ (hw _ (List.mem_of_getElem? (i := 26) rfl))) (mvT hZ (hw _ (List.mem_of_getElem? (i := 27) rfl))) (mvT hZ (hw _ (List.mem_of_getElem? (i := 28) rfl))) (mvT hZ (hw _ (List.mem_of_getElem? (i := 29) rfl))) (by decide) (backOf (W := 0) (rm5_2_1 l Z a0 hw [] b477 b474 b475 T544.heap n0 Z544 ) hZ (hw _ (List.mem_of_getElem? (i := 29) rfl)) (hw _ (List.mem_of_getElem? (i := 28) rfl)) (by decide) (by decide)) (g := (mkF m 210 #[.val (.int p1), .val (.int p2), .val (.int p3), .val (.int p4), .val (.int p5), .val (.int p6), .val (.int (1 : Int32)), .val (.int (0 : Int32)), .val (.ref b474), .val (.ref b475), .val (.ref b477), .val (.ref b484), .val (.int (1 : Int32))] [(.ref b475), (.ref b474), (.int (1 : Int32)), (.int (2 : Int32)), (.ref b477)])) rfl (by rw [hml]; rfl) (argsL := [(.ref b477), (.int (2 : Int32)), (.int (1 : Int32)), (.ref b474), (.ref b475)]) (rest := []) (lenOf pd_5 rfl) rfl (by show 2 * 0 + _ ≤ _; exact Nat.le_of_eq rfl) (hb hby at_210) (fun _ _ => ⟨rfl, e560, (by decide : 8 + 0 ≤ _), (by decide : 76 + 0 ≤ _)⟩)
      dsimp only [Pt.U, Pt.locs, Pt.cells, Pt.slots] at X562 l562 y562 z562 st562 hQ562
      subst l562 y562 z562
      obtain ⟨rfl, Nq562, e562⟩ := hQ562
      have N562 := Fr.app N560 Nq562
      refine own_go (A := _) (B := T562.setTop (mkF m 213 #[.val (.int p1), .val (.int p2), .val (.int p3), .val (.int p4), .val (.int p5), .val (.int p6), .val (.int (1 : Int32)), .val (.int (0 : Int32)), .val (.ref b474), .val (.ref b475), .val (.ref b477), .val (.ref b484), .val (.int (1 : Int32))] [(.int (1 : Int32))])) st562 ?_
      refine own_go (A := T562.setTop (mkF m 213 #[.val (.int p1), .val (.int p2), .val (.int p3), .val (.int p4), .val (.int p5), .val (.int p6), .val (.int (1 : Int32)), .val (.int (0 : Int32)), .val (.ref b474), .val (.ref b475), .val (.ref b477), .val (.ref b484), .val (.int (1 : Int32))] [(.int (1 : Int32))])) (B := T562.setTop (mkF m 221 #[.val (.int p1), .val (.int p2), .val (.int p3), .val (.int p4), .val (.int p5), .val (.int p6), .val (.int (1 : Int32)), .val (.int (0 : Int32)), .val (.ref b474), .val (.ref b475), .val (.ref b477), .val (.ref b484), .val (.int (1 : Int32))] [(.int (1 : Int32))])) (fun t k => ?_) ?_
      · show Steps p.tables e below (T562.setTop (mkF m 213 #[.val (.int p1), .val (.int p2), .val (.int p3), .val (.int p4), .val (.int p5), .val (.int p6), .val (.int (1 : Int32)), .val (.int (0 : Int32)), .val (.ref b474), .val (.ref b475), .val (.ref b477), .val (.ref b484), .val (.int (1 : Int32))] [(.int (1 : Int32))])) _
        refine XS.ifNo X562.here hx rfl (hb hby at_213) rfl ((if0 _ _).trans (feq (by decide : ¬ ((1 : Int32) = (0 : Int32)))).1) ?_
        show Steps p.tables e below (T562.setTop (mkF m 216 #[.val (.int p1), .val (.int p2), .val (.int p3), .val (.int p4), .val (.int p5), .val (.int p6), .val (.int (1 : Int32)), .val (.int (0 : Int32)), .val (.ref b474), .val (.ref b475), .val (.ref b477), .val (.ref b484), .val (.int (1 : Int32))] [])) _
        refine XS.iconst X562.here hx rfl (hb hby at_216) ?_
        show Steps p.tables e below (T562.setTop (mkF m 217 #[.val (.int p1), .val (.int p2), .val (.int p3), .val (.int p4), .val (.int p5), .val (.int p6), .val (.int (1 : Int32)), .val (.int (0 : Int32)), .val (.ref b474), .val (.ref b475), .val (.ref b477), .val (.ref b484), .val (.int (1 : Int32))] [(.int (1 : Int32))])) _
        refine XS.goto X562.here hx rfl (pc0 := 217) (pc' := 221) rfl (hb hby at_217) (by decide) (by decide) ?_
        exact k
      obtain ⟨fs, hr, hrun, hended, hW, hsame⟩ := X562.leave (v := some (.int (1 : Int32))) (fun h => by rw [Bd.returns] at h; cases h)
      refine ⟨_, _, ?_, hrun, hended, _, _, rfl, ?_, ⟨_, rfl⟩, hW, hsame.mono (by decide) (by decide)⟩
      · show Steps p.tables e below (T562.setTop (mkF m 221 #[.val (.int p1), .val (.int p2), .val (.int p3), .val (.int p4), .val (.int p5), .val (.int p6), .val (.int (1 : Int32)), .val (.int (0 : Int32)), .val (.ref b474), .val (.ref b475), .val (.ref b477), .val (.ref b484), .val (.int (1 : Int32))] [(.int (1 : Int32))])) _
        exact retN X562 hx (t := .boolean) Bd.returns (by simp) (hb hby at_221) hr
      · show Qrm0 Z p1 p2 p3 p4 p5 p6 h0 n0 _ T562.heap _
        rw [e562]
        exact ⟨rfl, N562⟩
    · rw [hk473]
      refine own_go (A := s₁.setTop (mkF m 20 #[.val (.int p1), .val (.int p2), .val (.int p3), .val (.int p4), .val (.int p5), .val (.int p6), .val (.int (1 : Int32)), .unset, .unset, .unset, .unset, .unset, .unset] [(.int (1 : Int32))])) (B := s₁.setTop (mkF m 23 #[.val (.int p1), .val (.int p2), .val (.int p3), .val (.int p4), .val (.int p5), .val (.int p6), .val (.int (1 : Int32)), .val (.int (1 : Int32)), .unset, .unset, .unset, .unset, .unset] [(.int (3 : Int32))])) (fun t k => ?_) ?_
      · show Steps p.tables e below (s₁.setTop (mkF m 20 #[.val (.int p1), .val (.int p2), .val (.int p3), .val (.int p4), .val (.int p5), .val (.int p6), .val (.int (1 : Int32)), .unset, .unset, .unset, .unset, .unset, .unset] [(.int (1 : Int32))])) _
        refine XS.istore X0.here hx rfl (hb hby at_20) rfl (l' := #[.val (.int p1), .val (.int p2), .val (.int p3), .val (.int p4), .val (.int p5), .val (.int p6), .val (.int (1 : Int32)), .val (.int (1 : Int32)), .unset, .unset, .unset, .unset, .unset]) rfl ?_
        show Steps p.tables e below (s₁.setTop (mkF m 22 #[.val (.int p1), .val (.int p2), .val (.int p3), .val (.int p4), .val (.int p5), .val (.int p6), .val (.int (1 : Int32)), .val (.int (1 : Int32)), .unset, .unset, .unset, .unset, .unset] [])) _
        refine XS.iconst X0.here hx rfl (hb hby at_22) ?_
        exact k
      obtain ⟨T564, h564, k564, X564, e564, E564, A564, st564⟩ := newP X0 hx hZ (hw _ (List.mem_of_getElem? (i := 0) rfl)) e0 (g := (mkF m 23 #[.val (.int p1), .val (.int p2), .val (.int p3), .val (.int p4), .val (.int p5), .val (.int p6), .val (.int (1 : Int32)), .val (.int (1 : Int32)), .unset, .unset, .unset, .unset, .unset] [(.int (3 : Int32))])) rfl (hb hby at_23) rfl (by decide) (cap := 3) (by decide) (by decide) (by decide) (by decide)
      obtain ⟨b564, g564⟩ : ∃ z, z = h0.size := ⟨_, rfl⟩
      rw [← g564] at A564 st564
      have low564 : n0 ≤ b564 := Nat.le_trans Z0 (Nat.le_of_eq g564.symm)
      have sz564 : h0.size ≤ b564 := Nat.le_trans K0.1 (Nat.le_of_eq g564.symm)
      have Z564 : n0 ≤ h564.size := Nat.le_trans Z0 E564.1
      have K564 := K0.ext E564
      have V564 : Arv Z h564 b564 k564 .int (3 : Int32) [(.int (0 : Int32)), (.int (0 : Int32)), (.int (0 : Int32))] (.int (0 : Int32)) := (Arv.new A564 (by decide)).pad (pad_rep [] (.int (0 : Int32)) 3)
      refine own_go st564 ?_
      refine own_go (A := T564.setTop (mkF m 25 #[.val (.int p1), .val (.int p2), .val (.int p3), .val (.int p4), .val (.int p5), .val (.int p6), .val (.int (1 : Int32)), .val (.int (1 : Int32)), .unset, .unset, .unset, .unset, .unset] [(.ref b564)])) (B := T564.setTop (mkF m 28 #[.val (.int p1), .val (.int p2), .val (.int p3), .val (.int p4), .val (.int p5), .val (.int p6), .val (.int (1 : Int32)), .val (.int (1 : Int32)), .val (.ref b564), .unset, .unset, .unset, .unset] [(.int (3 : Int32))])) (fun t k => ?_) ?_
      · show Steps p.tables e below (T564.setTop (mkF m 25 #[.val (.int p1), .val (.int p2), .val (.int p3), .val (.int p4), .val (.int p5), .val (.int p6), .val (.int (1 : Int32)), .val (.int (1 : Int32)), .unset, .unset, .unset, .unset, .unset] [(.ref b564)])) _
        refine XS.astore X564.here hx rfl (hb hby at_25) rfl rfl (l' := #[.val (.int p1), .val (.int p2), .val (.int p3), .val (.int p4), .val (.int p5), .val (.int p6), .val (.int (1 : Int32)), .val (.int (1 : Int32)), .val (.ref b564), .unset, .unset, .unset, .unset]) rfl ?_
        show Steps p.tables e below (T564.setTop (mkF m 27 #[.val (.int p1), .val (.int p2), .val (.int p3), .val (.int p4), .val (.int p5), .val (.int p6), .val (.int (1 : Int32)), .val (.int (1 : Int32)), .val (.ref b564), .unset, .unset, .unset, .unset] [])) _
        refine XS.iconst X564.here hx rfl (hb hby at_27) ?_
        exact k
      obtain ⟨T565, h565, k565, X565, e565, E565, A565, st565⟩ := newP X564 hx hZ (hw _ (List.mem_of_getElem? (i := 0) rfl)) e564 (g := (mkF m 28 #[.val (.int p1), .val (.int p2), .val (.int p3), .val (.int p4), .val (.int p5), .val (.int p6), .val (.int (1 : Int32)), .val (.int (1 : Int32)), .val (.ref b564), .unset, .unset, .unset, .unset] [(.int (3 : Int32))])) rfl (hb hby at_28) rfl (by decide) (cap := 3) (by decide) (by decide) (by decide) (by decide)
      obtain ⟨b565, g565⟩ : ∃ z, z = h564.size := ⟨_, rfl⟩
      rw [← g565] at A565 st565
      have ne565_b564 : b564 ≠ b565 := Nat.ne_of_lt (Nat.lt_of_lt_of_le V564.lt (Nat.le_of_eq g565.symm))
      have low565 : n0 ≤ b565 := Nat.le_trans Z564 (Nat.le_of_eq g565.symm)
      have sz565 : h0.size ≤ b565 := Nat.le_trans K564.1 (Nat.le_of_eq g565.symm)
      have Q566 : Arv Z h565 b564 k564 .int (3 : Int32) [(.int (0 : Int32)), (.int (0 : Int32)), (.int (0 : Int32))] (.int (0 : Int32)) := V564.ext E565
      have Z565 : n0 ≤ h565.size := Nat.le_trans Z564 E565.1
      have K565 := K564.ext E565
      have V565 : Arv Z h565 b565 k565 .int (3 : Int32) [(.int (0 : Int32)), (.int (0 : Int32)), (.int (0 : Int32))] (.int (0 : Int32)) := (Arv.new A565 (by decide)).pad (pad_rep [] (.int (0 : Int32)) 3)
      refine own_go st565 ?_
      refine own_go (A := T565.setTop (mkF m 30 #[.val (.int p1), .val (.int p2), .val (.int p3), .val (.int p4), .val (.int p5), .val (.int p6), .val (.int (1 : Int32)), .val (.int (1 : Int32)), .val (.ref b564), .unset, .unset, .unset, .unset] [(.ref b565)])) (B := T565.setTop (mkF m 32 #[.val (.int p1), .val (.int p2), .val (.int p3), .val (.int p4), .val (.int p5), .val (.int p6), .val (.int (1 : Int32)), .val (.int (1 : Int32)), .val (.ref b564), .val (.ref b565), .unset, .unset, .unset] [])) (fun t k => ?_) ?_
      · show Steps p.tables e below (T565.setTop (mkF m 30 #[.val (.int p1), .val (.int p2), .val (.int p3), .val (.int p4), .val (.int p5), .val (.int p6), .val (.int (1 : Int32)), .val (.int (1 : Int32)), .val (.ref b564), .unset, .unset, .unset, .unset] [(.ref b565)])) _
        refine XS.astore X565.here hx rfl (hb hby at_30) rfl rfl (l' := #[.val (.int p1), .val (.int p2), .val (.int p3), .val (.int p4), .val (.int p5), .val (.int p6), .val (.int (1 : Int32)), .val (.int (1 : Int32)), .val (.ref b564), .val (.ref b565), .unset, .unset, .unset]) rfl ?_
        exact k
      obtain ⟨T567, h567, X567, e567, E567, A567, D567, -, st567⟩ := newO X565 hx hZ hown (hw _ (List.mem_of_getElem? (i := 1) rfl)) (hw _ (List.mem_of_getElem? (i := 2) rfl)) (hw _ (List.mem_of_getElem? (i := 3) rfl)) e565 (g := (mkF m 32 #[.val (.int p1), .val (.int p2), .val (.int p3), .val (.int p4), .val (.int p5), .val (.int p6), .val (.int (1 : Int32)), .val (.int (1 : Int32)), .val (.ref b564), .val (.ref b565), .unset, .unset, .unset] [])) rfl (hb hby at_32) (by decide) (by decide)
      obtain ⟨b567, g567⟩ : ∃ z, z = h565.size := ⟨_, rfl⟩
      rw [← g567] at A567 D567 st567
      have ne567_b564 : b564 ≠ b567 := Nat.ne_of_lt (Nat.lt_of_lt_of_le Q566.lt (Nat.le_of_eq g567.symm))
      have ne567_b565 : b565 ≠ b567 := Nat.ne_of_lt (Nat.lt_of_lt_of_le V565.lt (Nat.le_of_eq g567.symm))
      have low567 : n0 ≤ b567 := Nat.le_trans Z565 (Nat.le_of_eq g567.symm)
      have sz567 : h0.size ≤ b567 := Nat.le_trans K565.1 (Nat.le_of_eq g567.symm)
      have Q568 : Arv Z h567 b564 k564 .int (3 : Int32) [(.int (0 : Int32)), (.int (0 : Int32)), (.int (0 : Int32))] (.int (0 : Int32)) := Q566.ext E567
      have Q569 : Arv Z h567 b565 k565 .int (3 : Int32) [(.int (0 : Int32)), (.int (0 : Int32)), (.int (0 : Int32))] (.int (0 : Int32)) := V565.ext E567
      have Z567 : n0 ≤ h567.size := Nat.le_trans Z565 E567.1
      have K567 := K565.ext E567
      have D567_from_Arcs : Fld Z h567 b567 "com/example/axiomwright/axiomwright/Arcs" "from" "[I" .null := D567 (Or.inl (hw _ (List.mem_of_getElem? (i := 11) rfl))) (ty := (.array .int)) (by decide)
      have D567_to_Arcs : Fld Z h567 b567 "com/example/axiomwright/axiomwright/Arcs" "to" "[I" .null := D567 (Or.inl (hw _ (List.mem_of_getElem? (i := 13) rfl))) (ty := (.array .int)) (by decide)
      have D567_size_Arcs : Fld Z h567 b567 "com/example/axiomwright/axiomwright/Arcs" "size" "I" (.int (0 : Int32)) := D567 (Or.inl (hw _ (List.mem_of_getElem? (i := 20) rfl))) (ty := .int) (by decide)
      refine own_go st567 ?_
      refine own_go (A := T567.setTop (mkF m 35 #[.val (.int p1), .val (.int p2), .val (.int p3), .val (.int p4), .val (.int p5), .val (.int p6), .val (.int (1 : Int32)), .val (.int (1 : Int32)), .val (.ref b564), .val (.ref b565), .unset, .unset, .unset] [(.ref b567)])) (B := T567.setTop (mkF m 36 #[.val (.int p1), .val (.int p2), .val (.int p3), .val (.int p4), .val (.int p5), .val (.int p6), .val (.int (1 : Int32)), .val (.int (1 : Int32)), .val (.ref b564), .val (.ref b565), .unset, .unset, .unset] [(.ref b567), (.ref b567)])) (fun t k => ?_) ?_
      · show Steps p.tables e below (T567.setTop (mkF m 35 #[.val (.int p1), .val (.int p2), .val (.int p3), .val (.int p4), .val (.int p5), .val (.int p6), .val (.int (1 : Int32)), .val (.int (1 : Int32)), .val (.ref b564), .val (.ref b565), .unset, .unset, .unset] [(.ref b567)])) _
        refine XS.dup X567.here hx rfl (hb hby at_35) rfl rfl ?_
        exact k
      obtain ⟨_, _, ⟨T570, L570, k570, n570⟩, -, X570, ⟨Lc570, hQ570, l570, y570, z570⟩, st570⟩ := X567.specialBack hx (y := (⟨"com/example/axiomwright/axiomwright/Arcs", "<init>", "()V"⟩ : MethodName)) rfl hown (mvT hZ (hw _ (List.mem_of_getElem? (i := 4) rfl))) (mvT hZ (hw _ (List.mem_of_getElem? (i := 5) rfl))) (mvT hZ (hw _ (List.mem_of_getElem? (i := 6) rfl))) (by decide) (backOf (W := 1) (rm1 l Z a0 hw [] b567 h567 n0 Z567 A567 D567_from_Arcs D567_to_Arcs D567_size_Arcs low567) hZ (hw _ (List.mem_of_getElem? (i := 6) rfl)) (hw _ (List.mem_of_getElem? (i := 3) rfl)) (by decide) (by decide)) (g := (mkF m 36 #[.val (.int p1), .val (.int p2), .val (.int p3), .val (.int p4), .val (.int p5), .val (.int p6), .val (.int (1 : Int32)), .val (.int (1 : Int32)), .val (.ref b564), .val (.ref b565), .unset, .unset, .unset] [(.ref b567), (.ref b567)])) rfl (by rw [hml]; rfl) (Steps.refl _) (a := b567) (argsL := []) (rest := [(.ref b567)]) (lenOf pd_2 rfl) rfl (by show 2 * 0 + _ ≤ _; exact Nat.le_of_eq rfl) (hb hby at_36) (fun _ _ => ⟨rfl, e567, (by decide : 3 + 2 ≤ _), (by decide : 9 + 32 ≤ _)⟩)
      dsimp only [Pt.U, Pt.locs, Pt.cells, Pt.slots] at X570 l570 y570 z570 st570 hQ570
      subst l570 y570 z570
      obtain ⟨b1_570, b2_570, k1_570, k2_570, rfl, Nq570, Kq570, sq_b1_570, sq_b2_570, pq570_0, U570_0, U570_1, U570_2, U570_3, U570_4⟩ := hQ570
      have ne_b564_b1_570 : b564 ≠ b1_570 := Nat.ne_of_lt (Nat.lt_of_lt_of_le Q568.lt sq_b1_570)
      have ne_b565_b1_570 : b565 ≠ b1_570 := Nat.ne_of_lt (Nat.lt_of_lt_of_le Q569.lt sq_b1_570)
      have ne_b567_b1_570 : b567 ≠ b1_570 := Nat.ne_of_lt (Nat.lt_of_lt_of_le A567.lt sq_b1_570)
      have low_b1_570 : n0 ≤ b1_570 := Nat.le_trans Z567 sq_b1_570
      have sz_b1_570 : h0.size ≤ b1_570 := Nat.le_trans K567.1 sq_b1_570
      have ne_b564_b2_570 : b564 ≠ b2_570 := Nat.ne_of_lt (Nat.lt_of_lt_of_le Q568.lt sq_b2_570)
      have ne_b565_b2_570 : b565 ≠ b2_570 := Nat.ne_of_lt (Nat.lt_of_lt_of_le Q569.lt sq_b2_570)
      have ne_b567_b2_570 : b567 ≠ b2_570 := Nat.ne_of_lt (Nat.lt_of_lt_of_le A567.lt sq_b2_570)
      have low_b2_570 : n0 ≤ b2_570 := Nat.le_trans Z567 sq_b2_570
      have sz_b2_570 : h0.size ≤ b2_570 := Nat.le_trans K567.1 sq_b2_570
      have Q571 : Arv Z T570.heap b564 k564 .int (3 : Int32) [(.int (0 : Int32)), (.int (0 : Int32)), (.int (0 : Int32))] (.int (0 : Int32)) := Q568.keep Kq570 (ninS ne567_b564 nin0)
      have Q572 : Arv Z T570.heap b565 k565 .int (3 : Int32) [(.int (0 : Int32)), (.int (0 : Int32)), (.int (0 : Int32))] (.int (0 : Int32)) := Q569.keep Kq570 (ninS ne567_b565 nin0)
      have Q573 : Exa Z T570.heap b567 "com/example/axiomwright/axiomwright/Arcs" := A567.keep Kq570
      have Z570 : n0 ≤ T570.heap.size := Nat.le_trans Z567 Kq570.1
      have K570 : Keep h0 T570.heap [] := K567.trans Kq570 (allS (Or.inr sz567) all0)
      have N570 := Fr.app N0 Nq570
      refine own_go (A := _) (B := T570.setTop (mkF m 39 #[.val (.int p1), .val (.int p2), .val (.int p3), .val (.int p4), .val (.int p5), .val (.int p6), .val (.int (1 : Int32)), .val (.int (1 : Int32)), .val (.ref b564), .val (.ref b565), .unset, .unset, .unset] [(.ref b567)])) (fun t k => st570.trans k) ?_
      refine own_go (A := T570.setTop (mkF m 39 #[.val (.int p1), .val (.int p2), .val (.int p3), .val (.int p4), .val (.int p5), .val (.int p6), .val (.int (1 : Int32)), .val (.int (1 : Int32)), .val (.ref b564), .val (.ref b565), .unset, .unset, .unset] [(.ref b567)])) (B := T570.setTop (mkF m 41 #[.val (.int p1), .val (.int p2), .val (.int p3), .val (.int p4), .val (.int p5), .val (.int p6), .val (.int (1 : Int32)), .val (.int (1 : Int32)), .val (.ref b564), .val (.ref b565), .val (.ref b567), .unset, .unset] [])) (fun t k => ?_) ?_
      · show Steps p.tables e below (T570.setTop (mkF m 39 #[.val (.int p1), .val (.int p2), .val (.int p3), .val (.int p4), .val (.int p5), .val (.int p6), .val (.int (1 : Int32)), .val (.int (1 : Int32)), .val (.ref b564), .val (.ref b565), .unset, .unset, .unset] [(.ref b567)])) _
        refine XS.astore X570.here hx rfl (hb hby at_39) rfl rfl (l' := #[.val (.int p1), .val (.int p2), .val (.int p3), .val (.int p4), .val (.int p5), .val (.int p6), .val (.int (1 : Int32)), .val (.int (1 : Int32)), .val (.ref b564), .val (.ref b565), .val (.ref b567), .unset, .unset]) rfl ?_
        exact k
      obtain ⟨T574, h574, X574, e574, E574, A574, D574, -, st574⟩ := newO X570 hx hZ hown (hw _ (List.mem_of_getElem? (i := 1) rfl)) (hw _ (List.mem_of_getElem? (i := 2) rfl)) (hw _ (List.mem_of_getElem? (i := 3) rfl)) rfl (g := (mkF m 41 #[.val (.int p1), .val (.int p2), .val (.int p3), .val (.int p4), .val (.int p5), .val (.int p6), .val (.int (1 : Int32)), .val (.int (1 : Int32)), .val (.ref b564), .val (.ref b565), .val (.ref b567), .unset, .unset] [])) rfl (hb hby at_41) (by decide) (by decide)
      obtain ⟨b574, g574⟩ : ∃ z, z = T570.heap.size := ⟨_, rfl⟩
      rw [← g574] at A574 D574 st574
      have ne574_b1_570 : b1_570 ≠ b574 := Nat.ne_of_lt (Nat.lt_of_lt_of_le U570_3.lt (Nat.le_of_eq g574.symm))
      have ne574_b2_570 : b2_570 ≠ b574 := Nat.ne_of_lt (Nat.lt_of_lt_of_le U570_4.lt (Nat.le_of_eq g574.symm))
      have ne574_b564 : b564 ≠ b574 := Nat.ne_of_lt (Nat.lt_of_lt_of_le Q571.lt (Nat.le_of_eq g574.symm))
      have ne574_b565 : b565 ≠ b574 := Nat.ne_of_lt (Nat.lt_of_lt_of_le Q572.lt (Nat.le_of_eq g574.symm))
      have ne574_b567 : b567 ≠ b574 := Nat.ne_of_lt (Nat.lt_of_lt_of_le Q573.lt (Nat.le_of_eq g574.symm))
      have low574 : n0 ≤ b574 := Nat.le_trans Z570 (Nat.le_of_eq g574.symm)
      have sz574 : h0.size ≤ b574 := Nat.le_trans K570.1 (Nat.le_of_eq g574.symm)
      have Q575 : Arv Z h574 b564 k564 .int (3 : Int32) [(.int (0 : Int32)), (.int (0 : Int32)), (.int (0 : Int32))] (.int (0 : Int32)) := Q571.ext E574
      have Q576 : Arv Z h574 b565 k565 .int (3 : Int32) [(.int (0 : Int32)), (.int (0 : Int32)), (.int (0 : Int32))] (.int (0 : Int32)) := Q572.ext E574
      have Q577 : Exa Z h574 b567 "com/example/axiomwright/axiomwright/Arcs" := Q573.ext E574
      have Q578 : Fld Z h574 b567 "com/example/axiomwright/axiomwright/Arcs" "from" "[I" (.ref b1_570) := U570_0.ext E574
      have Q579 : Fld Z h574 b567 "com/example/axiomwright/axiomwright/Arcs" "to" "[I" (.ref b2_570) := U570_1.ext E574
      have Q580 : Fld Z h574 b567 "com/example/axiomwright/axiomwright/Arcs" "size" "I" (.int (0 : Int32)) := U570_2.ext E574
      have Q581 : Arv Z h574 b1_570 k1_570 .int (16 : Int32) [(.int (0 : Int32)), (.int (0 : Int32)), (.int (0 : Int32)), (.int (0 : Int32)), (.int (0 : Int32)), (.int (0 : Int32)), (.int (0 : Int32)), (.int (0 : Int32)), (.int (0 : Int32)), (.int (0 : Int32)), (.int (0 : Int32)), (.int (0 : Int32)), (.int (0 : Int32)), (.int (0 : Int32)), (.int (0 : Int32)), (.int (0 : Int32))] (.int (0 : Int32)) := U570_3.ext E574
      have Q582 : Arv Z h574 b2_570 k2_570 .int (16 : Int32) [(.int (0 : Int32)), (.int (0 : Int32)), (.int (0 : Int32)), (.int (0 : Int32)), (.int (0 : Int32)), (.int (0 : Int32)), (.int (0 : Int32)), (.int (0 : Int32)), (.int (0 : Int32)), (.int (0 : Int32)), (.int (0 : Int32)), (.int (0 : Int32)), (.int (0 : Int32)), (.int (0 : Int32)), (.int (0 : Int32)), (.int (0 : Int32))] (.int (0 : Int32)) := U570_4.ext E574
      have Z574 : n0 ≤ h574.size := Nat.le_trans Z570 E574.1
      have K574 := K570.ext E574
      have D574_from_Arcs : Fld Z h574 b574 "com/example/axiomwright/axiomwright/Arcs" "from" "[I" .null := D574 (Or.inl (hw _ (List.mem_of_getElem? (i := 11) rfl))) (ty := (.array .int)) (by decide)
      have D574_to_Arcs : Fld Z h574 b574 "com/example/axiomwright/axiomwright/Arcs" "to" "[I" .null := D574 (Or.inl (hw _ (List.mem_of_getElem? (i := 13) rfl))) (ty := (.array .int)) (by decide)
      have D574_size_Arcs : Fld Z h574 b574 "com/example/axiomwright/axiomwright/Arcs" "size" "I" (.int (0 : Int32)) := D574 (Or.inl (hw _ (List.mem_of_getElem? (i := 20) rfl))) (ty := .int) (by decide)
      refine own_go st574 ?_
      refine own_go (A := T574.setTop (mkF m 44 #[.val (.int p1), .val (.int p2), .val (.int p3), .val (.int p4), .val (.int p5), .val (.int p6), .val (.int (1 : Int32)), .val (.int (1 : Int32)), .val (.ref b564), .val (.ref b565), .val (.ref b567), .unset, .unset] [(.ref b574)])) (B := T574.setTop (mkF m 45 #[.val (.int p1), .val (.int p2), .val (.int p3), .val (.int p4), .val (.int p5), .val (.int p6), .val (.int (1 : Int32)), .val (.int (1 : Int32)), .val (.ref b564), .val (.ref b565), .val (.ref b567), .unset, .unset] [(.ref b574), (.ref b574)])) (fun t k => ?_) ?_
      · show Steps p.tables e below (T574.setTop (mkF m 44 #[.val (.int p1), .val (.int p2), .val (.int p3), .val (.int p4), .val (.int p5), .val (.int p6), .val (.int (1 : Int32)), .val (.int (1 : Int32)), .val (.ref b564), .val (.ref b565), .val (.ref b567), .unset, .unset] [(.ref b574)])) _
        refine XS.dup X574.here hx rfl (hb hby at_44) rfl rfl ?_
        exact k
      obtain ⟨_, _, ⟨T583, L583, k583, n583⟩, -, X583, ⟨Lc583, hQ583, l583, y583, z583⟩, st583⟩ := X574.specialBack hx (y := (⟨"com/example/axiomwright/axiomwright/Arcs", "<init>", "()V"⟩ : MethodName)) rfl hown (mvT hZ (hw _ (List.mem_of_getElem? (i := 4) rfl))) (mvT hZ (hw _ (List.mem_of_getElem? (i := 5) rfl))) (mvT hZ (hw _ (List.mem_of_getElem? (i := 6) rfl))) (by decide) (backOf (W := 1) (rm1 l Z a0 hw [] b574 h574 n0 Z574 A574 D574_from_Arcs D574_to_Arcs D574_size_Arcs low574) hZ (hw _ (List.mem_of_getElem? (i := 6) rfl)) (hw _ (List.mem_of_getElem? (i := 3) rfl)) (by decide) (by decide)) (g := (mkF m 45 #[.val (.int p1), .val (.int p2), .val (.int p3), .val (.int p4), .val (.int p5), .val (.int p6), .val (.int (1 : Int32)), .val (.int (1 : Int32)), .val (.ref b564), .val (.ref b565), .val (.ref b567), .unset, .unset] [(.ref b574), (.ref b574)])) rfl (by rw [hml]; rfl) (Steps.refl _) (a := b574) (argsL := []) (rest := [(.ref b574)]) (lenOf pd_2 rfl) rfl (by show 2 * 0 + _ ≤ _; exact Nat.le_of_eq rfl) (hb hby at_45) (fun _ _ => ⟨rfl, e574, (by decide : 6 + 2 ≤ _), (by decide : 44 + 32 ≤ _)⟩)
      dsimp only [Pt.U, Pt.locs, Pt.cells, Pt.slots] at X583 l583 y583 z583 st583 hQ583
      subst l583 y583 z583
      obtain ⟨b1_583, b2_583, k1_583, k2_583, rfl, Nq583, Kq583, sq_b1_583, sq_b2_583, pq583_0, U583_0, U583_1, U583_2, U583_3, U583_4⟩ := hQ583
      have ne_b1_570_b1_583 : b1_570 ≠ b1_583 := Nat.ne_of_lt (Nat.lt_of_lt_of_le Q581.lt sq_b1_583)
      have ne_b2_570_b1_583 : b2_570 ≠ b1_583 := Nat.ne_of_lt (Nat.lt_of_lt_of_le Q582.lt sq_b1_583)
      have ne_b564_b1_583 : b564 ≠ b1_583 := Nat.ne_of_lt (Nat.lt_of_lt_of_le Q575.lt sq_b1_583)
      have ne_b565_b1_583 : b565 ≠ b1_583 := Nat.ne_of_lt (Nat.lt_of_lt_of_le Q576.lt sq_b1_583)
      have ne_b567_b1_583 : b567 ≠ b1_583 := Nat.ne_of_lt (Nat.lt_of_lt_of_le Q577.lt sq_b1_583)
      have ne_b574_b1_583 : b574 ≠ b1_583 := Nat.ne_of_lt (Nat.lt_of_lt_of_le A574.lt sq_b1_583)
      have low_b1_583 : n0 ≤ b1_583 := Nat.le_trans Z574 sq_b1_583
      have sz_b1_583 : h0.size ≤ b1_583 := Nat.le_trans K574.1 sq_b1_583
      have ne_b1_570_b2_583 : b1_570 ≠ b2_583 := Nat.ne_of_lt (Nat.lt_of_lt_of_le Q581.lt sq_b2_583)
      have ne_b2_570_b2_583 : b2_570 ≠ b2_583 := Nat.ne_of_lt (Nat.lt_of_lt_of_le Q582.lt sq_b2_583)
      have ne_b564_b2_583 : b564 ≠ b2_583 := Nat.ne_of_lt (Nat.lt_of_lt_of_le Q575.lt sq_b2_583)
      have ne_b565_b2_583 : b565 ≠ b2_583 := Nat.ne_of_lt (Nat.lt_of_lt_of_le Q576.lt sq_b2_583)
      have ne_b567_b2_583 : b567 ≠ b2_583 := Nat.ne_of_lt (Nat.lt_of_lt_of_le Q577.lt sq_b2_583)
      have ne_b574_b2_583 : b574 ≠ b2_583 := Nat.ne_of_lt (Nat.lt_of_lt_of_le A574.lt sq_b2_583)
      have low_b2_583 : n0 ≤ b2_583 := Nat.le_trans Z574 sq_b2_583
      have sz_b2_583 : h0.size ≤ b2_583 := Nat.le_trans K574.1 sq_b2_583
      have Q584 : Arv Z T583.heap b564 k564 .int (3 : Int32) [(.int (0 : Int32)), (.int (0 : Int32)), (.int (0 : Int32))] (.int (0 : Int32)) := Q575.keep Kq583 (ninS ne574_b564 nin0)
      have Q585 : Arv Z T583.heap b565 k565 .int (3 : Int32) [(.int (0 : Int32)), (.int (0 : Int32)), (.int (0 : Int32))] (.int (0 : Int32)) := Q576.keep Kq583 (ninS ne574_b565 nin0)
      have Q586 : Exa Z T583.heap b567 "com/example/axiomwright/axiomwright/Arcs" := Q577.keep Kq583
      have Q587 : Fld Z T583.heap b567 "com/example/axiomwright/axiomwright/Arcs" "from" "[I" (.ref b1_570) := Q578.keep Kq583 (ninS ne574_b567 nin0)
      have Q588 : Fld Z T583.heap b567 "com/example/axiomwright/axiomwright/Arcs" "to" "[I" (.ref b2_570) := Q579.keep Kq583 (ninS ne574_b567 nin0)
      have Q589 : Fld Z T583.heap b567 "com/example/axiomwright/axiomwright/Arcs" "size" "I" (.int (0 : Int32)) := Q580.keep Kq583 (ninS ne574_b567 nin0)
      have Q590 : Arv Z T583.heap b1_570 k1_570 .int (16 : Int32) [(.int (0 : Int32)), (.int (0 : Int32)), (.int (0 : Int32)), (.int (0 : Int32)), (.int (0 : Int32)), (.int (0 : Int32)), (.int (0 : Int32)), (.int (0 : Int32)), (.int (0 : Int32)), (.int (0 : Int32)), (.int (0 : Int32)), (.int (0 : Int32)), (.int (0 : Int32)), (.int (0 : Int32)), (.int (0 : Int32)), (.int (0 : Int32))] (.int (0 : Int32)) := Q581.keep Kq583 (ninS ne574_b1_570 nin0)
      have Q591 : Arv Z T583.heap b2_570 k2_570 .int (16 : Int32) [(.int (0 : Int32)), (.int (0 : Int32)), (.int (0 : Int32)), (.int (0 : Int32)), (.int (0 : Int32)), (.int (0 : Int32)), (.int (0 : Int32)), (.int (0 : Int32)), (.int (0 : Int32)), (.int (0 : Int32)), (.int (0 : Int32)), (.int (0 : Int32)), (.int (0 : Int32)), (.int (0 : Int32)), (.int (0 : Int32)), (.int (0 : Int32))] (.int (0 : Int32)) := Q582.keep Kq583 (ninS ne574_b2_570 nin0)
      have Q592 : Exa Z T583.heap b574 "com/example/axiomwright/axiomwright/Arcs" := A574.keep Kq583
      have Z583 : n0 ≤ T583.heap.size := Nat.le_trans Z574 Kq583.1
      have K583 : Keep h0 T583.heap [] := K574.trans Kq583 (allS (Or.inr sz574) all0)
      have N583 := Fr.app N570 Nq583
      refine own_go (A := _) (B := T583.setTop (mkF m 48 #[.val (.int p1), .val (.int p2), .val (.int p3), .val (.int p4), .val (.int p5), .val (.int p6), .val (.int (1 : Int32)), .val (.int (1 : Int32)), .val (.ref b564), .val (.ref b565), .val (.ref b567), .unset, .unset] [(.ref b574)])) (fun t k => st583.trans k) ?_
      refine own_go (A := T583.setTop (mkF m 48 #[.val (.int p1), .val (.int p2), .val (.int p3), .val (.int p4), .val (.int p5), .val (.int p6), .val (.int (1 : Int32)), .val (.int (1 : Int32)), .val (.ref b564), .val (.ref b565), .val (.ref b567), .unset, .unset] [(.ref b574)])) (B := T583.setTop (mkF m 62 #[.val (.int p1), .val (.int p2), .val (.int p3), .val (.int p4), .val (.int p5), .val (.int p6), .val (.int (1 : Int32)), .val (.int (1 : Int32)), .val (.ref b564), .val (.ref b565), .val (.ref b567), .val (.ref b574), .val (.int (0 : Int32))] [(.int p3), (.int p2), (.ref b567)])) (fun t k => ?_) ?_
      · show Steps p.tables e below (T583.setTop (mkF m 48 #[.val (.int p1), .val (.int p2), .val (.int p3), .val (.int p4), .val (.int p5), .val (.int p6), .val (.int (1 : Int32)), .val (.int (1 : Int32)), .val (.ref b564), .val (.ref b565), .val (.ref b567), .unset, .unset] [(.ref b574)])) _
        refine XS.astore X583.here hx rfl (hb hby at_48) rfl rfl (l' := #[.val (.int p1), .val (.int p2), .val (.int p3), .val (.int p4), .val (.int p5), .val (.int p6), .val (.int (1 : Int32)), .val (.int (1 : Int32)), .val (.ref b564), .val (.ref b565), .val (.ref b567), .val (.ref b574), .unset]) rfl ?_
        show Steps p.tables e below (T583.setTop (mkF m 50 #[.val (.int p1), .val (.int p2), .val (.int p3), .val (.int p4), .val (.int p5), .val (.int p6), .val (.int (1 : Int32)), .val (.int (1 : Int32)), .val (.ref b564), .val (.ref b565), .val (.ref b567), .val (.ref b574), .unset] [])) _
        refine XS.iconst X583.here hx rfl (hb hby at_50) ?_
        show Steps p.tables e below (T583.setTop (mkF m 51 #[.val (.int p1), .val (.int p2), .val (.int p3), .val (.int p4), .val (.int p5), .val (.int p6), .val (.int (1 : Int32)), .val (.int (1 : Int32)), .val (.ref b564), .val (.ref b565), .val (.ref b567), .val (.ref b574), .unset] [(.int (0 : Int32))])) _
        refine XS.istore X583.here hx rfl (hb hby at_51) rfl (l' := #[.val (.int p1), .val (.int p2), .val (.int p3), .val (.int p4), .val (.int p5), .val (.int p6), .val (.int (1 : Int32)), .val (.int (1 : Int32)), .val (.ref b564), .val (.ref b565), .val (.ref b567), .val (.ref b574), .val (.int (0 : Int32))]) rfl ?_
        show Steps p.tables e below (T583.setTop (mkF m 53 #[.val (.int p1), .val (.int p2), .val (.int p3), .val (.int p4), .val (.int p5), .val (.int p6), .val (.int (1 : Int32)), .val (.int (1 : Int32)), .val (.ref b564), .val (.ref b565), .val (.ref b567), .val (.ref b574), .val (.int (0 : Int32))] [])) _
        refine XS.iload X583.here hx rfl (hb hby at_53) rfl ?_
        show Steps p.tables e below (T583.setTop (mkF m 55 #[.val (.int p1), .val (.int p2), .val (.int p3), .val (.int p4), .val (.int p5), .val (.int p6), .val (.int (1 : Int32)), .val (.int (1 : Int32)), .val (.ref b564), .val (.ref b565), .val (.ref b567), .val (.ref b574), .val (.int (0 : Int32))] [(.int (1 : Int32))])) _
        refine XS.ifNo X583.here hx rfl (hb hby at_55) rfl ((if0 _ _).trans (feq (by decide : ¬ ((1 : Int32) = (0 : Int32)))).1) ?_
        show Steps p.tables e below (T583.setTop (mkF m 58 #[.val (.int p1), .val (.int p2), .val (.int p3), .val (.int p4), .val (.int p5), .val (.int p6), .val (.int (1 : Int32)), .val (.int (1 : Int32)), .val (.ref b564), .val (.ref b565), .val (.ref b567), .val (.ref b574), .val (.int (0 : Int32))] [])) _
        refine XS.aload X583.here hx rfl (hb hby at_58) rfl rfl ?_
        show Steps p.tables e below (T583.setTop (mkF m 60 #[.val (.int p1), .val (.int p2), .val (.int p3), .val (.int p4), .val (.int p5), .val (.int p6), .val (.int (1 : Int32)), .val (.int (1 : Int32)), .val (.ref b564), .val (.ref b565), .val (.ref b567), .val (.ref b574), .val (.int (0 : Int32))] [(.ref b567)])) _
        refine XS.iloadN X583.here hx rfl (hb hby at_60) rfl ?_
        show Steps p.tables e below (T583.setTop (mkF m 61 #[.val (.int p1), .val (.int p2), .val (.int p3), .val (.int p4), .val (.int p5), .val (.int p6), .val (.int (1 : Int32)), .val (.int (1 : Int32)), .val (.ref b564), .val (.ref b565), .val (.ref b567), .val (.ref b574), .val (.int (0 : Int32))] [(.int p2), (.ref b567)])) _
        refine XS.iloadN X583.here hx rfl (hb hby at_61) rfl ?_
        exact k
      obtain ⟨cq594, kq594, q594a, q594b, q594c⟩ := isOf hZ rfl Q586
      obtain ⟨_, _, ⟨T594, L594, k594, n594⟩, -, X594, ⟨Lc594, hQ594, l594, y594, z594⟩, st594⟩ := X583.virtualBack hx (y := (⟨"com/example/axiomwright/axiomwright/Arcs", "add", "(II)V"⟩ : MethodName)) (z := (⟨"com/example/axiomwright/axiomwright/Arcs", "add", "(II)V"⟩ : MethodName)) hown (mvT hZ (hw _ (List.mem_of_getElem? (i := 30) rfl))) (mvT hZ (hw _ (List.mem_of_getElem? (i := 31) rfl))) (notFace_of_selects (args := #[]) (mvT hZ (hw _ (List.mem_of_getElem? (i := 33) rfl)))) (mvT hZ (hw _ (List.mem_of_getElem? (i := 33) rfl))) (mvT hZ (hw _ (List.mem_of_getElem? (i := 32) rfl))) (by decide) (backOf (W := 0) (rm6 l Z a0 hw [] b567 p2 p3 (0 : Int32) b1_570 b2_570 k1_570 k2_570 [(.int (0 : Int32)), (.int (0 : Int32)), (.int (0 : Int32)), (.int (0 : Int32)), (.int (0 : Int32)), (.int (0 : Int32)), (.int (0 : Int32)), (.int (0 : Int32)), (.int (0 : Int32)), (.int (0 : Int32)), (.int (0 : Int32)), (.int (0 : Int32)), (.int (0 : Int32)), (.int (0 : Int32)), (.int (0 : Int32)), (.int (0 : Int32))] [(.int (0 : Int32)), (.int (0 : Int32)), (.int (0 : Int32)), (.int (0 : Int32)), (.int (0 : Int32)), (.int (0 : Int32)), (.int (0 : Int32)), (.int (0 : Int32)), (.int (0 : Int32)), (.int (0 : Int32)), (.int (0 : Int32)), (.int (0 : Int32)), (.int (0 : Int32)), (.int (0 : Int32)), (.int (0 : Int32)), (.int (0 : Int32))] T583.heap n0 Z583 Q586 Q589 Q587 Q588 Q590 Q591 low567 low_b1_570 low_b2_570 ne_b567_b1_570 ne_b567_b2_570 pq570_0 (by decide) (by decide) (by decide) (Nat.le_of_ble_eq_true rfl) (Nat.le_of_ble_eq_true rfl)) hZ (hw _ (List.mem_of_getElem? (i := 34) rfl)) (hw _ (List.mem_of_getElem? (i := 3) rfl)) (by decide) (by decide)) q594a q594c (g := (mkF m 62 #[.val (.int p1), .val (.int p2), .val (.int p3), .val (.int p4), .val (.int p5), .val (.int p6), .val (.int (1 : Int32)), .val (.int (1 : Int32)), .val (.ref b564), .val (.ref b565), .val (.ref b567), .val (.ref b574), .val (.int (0 : Int32))] [(.int p3), (.int p2), (.ref b567)])) rfl (by rw [hml]; rfl) (Steps.refl _) (argsL := [(.int p2), (.int p3)]) (rest := []) (lenOf pd_0 rfl) rfl (by show 2 * 0 + _ ≤ _; exact Nat.le_of_eq rfl) (hb hby at_62) (fun _ _ => ⟨rfl, rfl, (by decide : 8 + 0 ≤ _), (by decide : 76 + 0 ≤ _)⟩)
      dsimp only [Pt.U, Pt.locs, Pt.cells, Pt.slots] at X594 l594 y594 z594 st594 hQ594
      subst l594 y594 z594
      obtain ⟨rfl, Nq594, Kq594, U594_0, U594_1, U594_2, U594_3, U594_4⟩ := hQ594
      have Q595 : Arv Z T594.heap b564 k564 .int (3 : Int32) [(.int (0 : Int32)), (.int (0 : Int32)), (.int (0 : Int32))] (.int (0 : Int32)) := Q584.keep Kq594 (ninS ne567_b564 (ninS ne_b564_b1_570 (ninS ne_b564_b2_570 nin0)))
      have Q596 : Arv Z T594.heap b565 k565 .int (3 : Int32) [(.int (0 : Int32)), (.int (0 : Int32)), (.int (0 : Int32))] (.int (0 : Int32)) := Q585.keep Kq594 (ninS ne567_b565 (ninS ne_b565_b1_570 (ninS ne_b565_b2_570 nin0)))
      have Q597 : Exa Z T594.heap b567 "com/example/axiomwright/axiomwright/Arcs" := Q586.keep Kq594
      have Q598 : Exa Z T594.heap b574 "com/example/axiomwright/axiomwright/Arcs" := Q592.keep Kq594
      have Q599 : Fld Z T594.heap b574 "com/example/axiomwright/axiomwright/Arcs" "from" "[I" (.ref b1_583) := U583_0.keep Kq594 (ninS (Ne.symm ne574_b567) (ninS (Ne.symm ne574_b1_570) (ninS (Ne.symm ne574_b2_570) nin0)))
      have Q600 : Fld Z T594.heap b574 "com/example/axiomwright/axiomwright/Arcs" "to" "[I" (.ref b2_583) := U583_1.keep Kq594 (ninS (Ne.symm ne574_b567) (ninS (Ne.symm ne574_b1_570) (ninS (Ne.symm ne574_b2_570) nin0)))
      have Q601 : Fld Z T594.heap b574 "com/example/axiomwright/axiomwright/Arcs" "size" "I" (.int (0 : Int32)) := U583_2.keep Kq594 (ninS (Ne.symm ne574_b567) (ninS (Ne.symm ne574_b1_570) (ninS (Ne.symm ne574_b2_570) nin0)))
      have Q602 : Arv Z T594.heap b1_583 k1_583 .int (16 : Int32) [(.int (0 : Int32)), (.int (0 : Int32)), (.int (0 : Int32)), (.int (0 : Int32)), (.int (0 : Int32)), (.int (0 : Int32)), (.int (0 : Int32)), (.int (0 : Int32)), (.int (0 : Int32)), (.int (0 : Int32)), (.int (0 : Int32)), (.int (0 : Int32)), (.int (0 : Int32)), (.int (0 : Int32)), (.int (0 : Int32)), (.int (0 : Int32))] (.int (0 : Int32)) := U583_3.keep Kq594 (ninS (Ne.symm ne_b567_b1_583) (ninS (Ne.symm ne_b1_570_b1_583) (ninS (Ne.symm ne_b2_570_b1_583) nin0)))
      have Q603 : Arv Z T594.heap b2_583 k2_583 .int (16 : Int32) [(.int (0 : Int32)), (.int (0 : Int32)), (.int (0 : Int32)), (.int (0 : Int32)), (.int (0 : Int32)), (.int (0 : Int32)), (.int (0 : Int32)), (.int (0 : Int32)), (.int (0 : Int32)), (.int (0 : Int32)), (.int (0 : Int32)), (.int (0 : Int32)), (.int (0 : Int32)), (.int (0 : Int32)), (.int (0 : Int32)), (.int (0 : Int32))] (.int (0 : Int32)) := U583_4.keep Kq594 (ninS (Ne.symm ne_b567_b2_583) (ninS (Ne.symm ne_b1_570_b2_583) (ninS (Ne.symm ne_b2_570_b2_583) nin0)))
      have U594_0n : Fld Z T594.heap b567 "com/example/axiomwright/axiomwright/Arcs" "size" "I" (.int (1 : Int32)) := U594_0
      have U594_3n : Arv Z T594.heap b1_570 k1_570 .int (16 : Int32) [(.int p2), (.int (0 : Int32)), (.int (0 : Int32)), (.int (0 : Int32)), (.int (0 : Int32)), (.int (0 : Int32)), (.int (0 : Int32)), (.int (0 : Int32)), (.int (0 : Int32)), (.int (0 : Int32)), (.int (0 : Int32)), (.int (0 : Int32)), (.int (0 : Int32)), (.int (0 : Int32)), (.int (0 : Int32)), (.int (0 : Int32))] (.int (0 : Int32)) := U594_3
      have U594_4n : Arv Z T594.heap b2_570 k2_570 .int (16 : Int32) [(.int p3), (.int (0 : Int32)), (.int (0 : Int32)), (.int (0 : Int32)), (.int (0 : Int32)), (.int (0 : Int32)), (.int (0 : Int32)), (.int (0 : Int32)), (.int (0 : Int32)), (.int (0 : Int32)), (.int (0 : Int32)), (.int (0 : Int32)), (.int (0 : Int32)), (.int (0 : Int32)), (.int (0 : Int32)), (.int (0 : Int32))] (.int (0 : Int32)) := U594_4
      have Z594 : n0 ≤ T594.heap.size := Nat.le_trans Z583 Kq594.1
      have K594 : Keep h0 T594.heap [] := K583.trans Kq594 (allS (Or.inr sz567) (allS (Or.inr sz_b1_570) (allS (Or.inr sz_b2_570) all0)))
      have N594 := Fr.app N583 Nq594
      refine own_go (A := _) (B := T594.setTop (mkF m 65 #[.val (.int p1), .val (.int p2), .val (.int p3), .val (.int p4), .val (.int p5), .val (.int p6), .val (.int (1 : Int32)), .val (.int (1 : Int32)), .val (.ref b564), .val (.ref b565), .val (.ref b567), .val (.ref b574), .val (.int (0 : Int32))] [])) (fun t k => st594.trans k) ?_
      refine own_go (A := T594.setTop (mkF m 65 #[.val (.int p1), .val (.int p2), .val (.int p3), .val (.int p4), .val (.int p5), .val (.int p6), .val (.int (1 : Int32)), .val (.int (1 : Int32)), .val (.ref b564), .val (.ref b565), .val (.ref b567), .val (.ref b574), .val (.int (0 : Int32))] [])) (B := T594.setTop (mkF m 70 #[.val (.int p1), .val (.int p2), .val (.int p3), .val (.int p4), .val (.int p5), .val (.int p6), .val (.int (1 : Int32)), .val (.int (1 : Int32)), .val (.ref b564), .val (.ref b565), .val (.ref b567), .val (.ref b574), .val (.int (0 : Int32))] [(.int p2), (.int (0 : Int32)), (.ref b564)])) (fun t k => ?_) ?_
      · show Steps p.tables e below (T594.setTop (mkF m 65 #[.val (.int p1), .val (.int p2), .val (.int p3), .val (.int p4), .val (.int p5), .val (.int p6), .val (.int (1 : Int32)), .val (.int (1 : Int32)), .val (.ref b564), .val (.ref b565), .val (.ref b567), .val (.ref b574), .val (.int (0 : Int32))] [])) _
        refine XS.aload X594.here hx rfl (hb hby at_65) rfl rfl ?_
        show Steps p.tables e below (T594.setTop (mkF m 67 #[.val (.int p1), .val (.int p2), .val (.int p3), .val (.int p4), .val (.int p5), .val (.int p6), .val (.int (1 : Int32)), .val (.int (1 : Int32)), .val (.ref b564), .val (.ref b565), .val (.ref b567), .val (.ref b574), .val (.int (0 : Int32))] [(.ref b564)])) _
        refine XS.iload X594.here hx rfl (hb hby at_67) rfl ?_
        show Steps p.tables e below (T594.setTop (mkF m 69 #[.val (.int p1), .val (.int p2), .val (.int p3), .val (.int p4), .val (.int p5), .val (.int p6), .val (.int (1 : Int32)), .val (.int (1 : Int32)), .val (.ref b564), .val (.ref b565), .val (.ref b567), .val (.ref b574), .val (.int (0 : Int32))] [(.int (0 : Int32)), (.ref b564)])) _
        refine XS.iloadN X594.here hx rfl (hb hby at_69) rfl ?_
        exact k
      obtain ⟨cl604, Ar604, q604, S604, M604, Ha604, G604⟩ := Q595
      have hin604 : ¬ ((0 : Int32) < 0 ∨ cl604.slots.size ≤ ((0 : Int32)).toNatClampNeg) := inb_of S604 ⟨by decide, by decide⟩
      obtain ⟨T604, h604, X604, e604, W604, st604⟩ := stI X594 hx hZ rfl Ar604 (j := (0 : Int32)) hin604 (g := (mkF m 70 #[.val (.int p1), .val (.int p2), .val (.int p3), .val (.int p4), .val (.int p5), .val (.int p6), .val (.int (1 : Int32)), .val (.int (1 : Int32)), .val (.ref b564), .val (.ref b565), .val (.ref b567), .val (.ref b574), .val (.int (0 : Int32))] [(.int p2), (.int (0 : Int32)), (.ref b564)])) rfl rfl (hb hby at_70)
      have Q605 : Arv Z h604 b565 k565 .int (3 : Int32) [(.int (0 : Int32)), (.int (0 : Int32)), (.int (0 : Int32))] (.int (0 : Int32)) := Q596.other W604 (Ne.symm ne565_b564)
      have Q606 : Exa Z h604 b567 "com/example/axiomwright/axiomwright/Arcs" := Q597.wr W604
      have Q607 : Exa Z h604 b574 "com/example/axiomwright/axiomwright/Arcs" := Q598.wr W604
      have Q608 : Fld Z h604 b574 "com/example/axiomwright/axiomwright/Arcs" "from" "[I" (.ref b1_583) := Q599.other W604 (Or.inl (Ne.symm ne574_b564))
      have Q609 : Fld Z h604 b574 "com/example/axiomwright/axiomwright/Arcs" "to" "[I" (.ref b2_583) := Q600.other W604 (Or.inl (Ne.symm ne574_b564))
      have Q610 : Fld Z h604 b574 "com/example/axiomwright/axiomwright/Arcs" "size" "I" (.int (0 : Int32)) := Q601.other W604 (Or.inl (Ne.symm ne574_b564))
      have Q611 : Arv Z h604 b1_583 k1_583 .int (16 : Int32) [(.int (0 : Int32)), (.int (0 : Int32)), (.int (0 : Int32)), (.int (0 : Int32)), (.int (0 : Int32)), (.int (0 : Int32)), (.int (0 : Int32)), (.int (0 : Int32)), (.int (0 : Int32)), (.int (0 : Int32)), (.int (0 : Int32)), (.int (0 : Int32)), (.int (0 : Int32)), (.int (0 : Int32)), (.int (0 : Int32)), (.int (0 : Int32))] (.int (0 : Int32)) := Q602.other W604 (Ne.symm ne_b564_b1_583)
      have Q612 : Arv Z h604 b2_583 k2_583 .int (16 : Int32) [(.int (0 : Int32)), (.int (0 : Int32)), (.int (0 : Int32)), (.int (0 : Int32)), (.int (0 : Int32)), (.int (0 : Int32)), (.int (0 : Int32)), (.int (0 : Int32)), (.int (0 : Int32)), (.int (0 : Int32)), (.int (0 : Int32)), (.int (0 : Int32)), (.int (0 : Int32)), (.int (0 : Int32)), (.int (0 : Int32)), (.int (0 : Int32))] (.int (0 : Int32)) := Q603.other W604 (Ne.symm ne_b564_b2_583)
      have Q613 : Fld Z h604 b567 "com/example/axiomwright/axiomwright/Arcs" "size" "I" (.int (1 : Int32)) := U594_0n.other W604 (Or.inl (Ne.symm ne567_b564))
      have Q614 : Fld Z h604 b567 "com/example/axiomwright/axiomwright/Arcs" "from" "[I" (.ref b1_570) := U594_1.other W604 (Or.inl (Ne.symm ne567_b564))
      have Q615 : Fld Z h604 b567 "com/example/axiomwright/axiomwright/Arcs" "to" "[I" (.ref b2_570) := U594_2.other W604 (Or.inl (Ne.symm ne567_b564))
      have Q616 : Arv Z h604 b1_570 k1_570 .int (16 : Int32) [(.int p2), (.int (0 : Int32)), (.int (0 : Int32)), (.int (0 : Int32)), (.int (0 : Int32)), (.int (0 : Int32)), (.int (0 : Int32)), (.int (0 : Int32)), (.int (0 : Int32)), (.int (0 : Int32)), (.int (0 : Int32)), (.int (0 : Int32)), (.int (0 : Int32)), (.int (0 : Int32)), (.int (0 : Int32)), (.int (0 : Int32))] (.int (0 : Int32)) := U594_3n.other W604 (Ne.symm ne_b564_b1_570)
      have Q617 : Arv Z h604 b2_570 k2_570 .int (16 : Int32) [(.int p3), (.int (0 : Int32)), (.int (0 : Int32)), (.int (0 : Int32)), (.int (0 : Int32)), (.int (0 : Int32)), (.int (0 : Int32)), (.int (0 : Int32)), (.int (0 : Int32)), (.int (0 : Int32)), (.int (0 : Int32)), (.int (0 : Int32)), (.int (0 : Int32)), (.int (0 : Int32)), (.int (0 : Int32)), (.int (0 : Int32))] (.int (0 : Int32)) := U594_4n.other W604 (Ne.symm ne_b564_b2_570)
      have U604 : Arv Z h604 b564 k564 .int (3 : Int32) [(.int p2), (.int (0 : Int32)), (.int (0 : Int32))] (.int (0 : Int32)) := Arv.set Ar604 q604 S604 M604 Ha604 G604 rfl W604 0 rfl (Nat.le_of_ble_eq_true rfl)
      have Z604 : n0 ≤ h604.size := Nat.le_trans Z594 (Keep.of_wr W604).1
      have N604 := Fr.snoc X604 N594 low564
      have K604 := K594.wr W604 (Or.inr sz564)
      refine own_go st604 ?_
      refine own_go (A := T604.setTop (mkF m 71 #[.val (.int p1), .val (.int p2), .val (.int p3), .val (.int p4), .val (.int p5), .val (.int p6), .val (.int (1 : Int32)), .val (.int (1 : Int32)), .val (.ref b564), .val (.ref b565), .val (.ref b567), .val (.ref b574), .val (.int (0 : Int32))] [])) (B := T604.setTop (mkF m 76 #[.val (.int p1), .val (.int p2), .val (.int p3), .val (.int p4), .val (.int p5), .val (.int p6), .val (.int (1 : Int32)), .val (.int (1 : Int32)), .val (.ref b564), .val (.ref b565), .val (.ref b567), .val (.ref b574), .val (.int (0 : Int32))] [(.int p3), (.int (0 : Int32)), (.ref b565)])) (fun t k => ?_) ?_
      · show Steps p.tables e below (T604.setTop (mkF m 71 #[.val (.int p1), .val (.int p2), .val (.int p3), .val (.int p4), .val (.int p5), .val (.int p6), .val (.int (1 : Int32)), .val (.int (1 : Int32)), .val (.ref b564), .val (.ref b565), .val (.ref b567), .val (.ref b574), .val (.int (0 : Int32))] [])) _
        refine XS.aload X604.here hx rfl (hb hby at_71) rfl rfl ?_
        show Steps p.tables e below (T604.setTop (mkF m 73 #[.val (.int p1), .val (.int p2), .val (.int p3), .val (.int p4), .val (.int p5), .val (.int p6), .val (.int (1 : Int32)), .val (.int (1 : Int32)), .val (.ref b564), .val (.ref b565), .val (.ref b567), .val (.ref b574), .val (.int (0 : Int32))] [(.ref b565)])) _
        refine XS.iload X604.here hx rfl (hb hby at_73) rfl ?_
        show Steps p.tables e below (T604.setTop (mkF m 75 #[.val (.int p1), .val (.int p2), .val (.int p3), .val (.int p4), .val (.int p5), .val (.int p6), .val (.int (1 : Int32)), .val (.int (1 : Int32)), .val (.ref b564), .val (.ref b565), .val (.ref b567), .val (.ref b574), .val (.int (0 : Int32))] [(.int (0 : Int32)), (.ref b565)])) _
        refine XS.iloadN X604.here hx rfl (hb hby at_75) rfl ?_
        exact k
      obtain ⟨cl618, Ar618, q618, S618, M618, Ha618, G618⟩ := Q605
      have hin618 : ¬ ((0 : Int32) < 0 ∨ cl618.slots.size ≤ ((0 : Int32)).toNatClampNeg) := inb_of S618 ⟨by decide, by decide⟩
      obtain ⟨T618, h618, X618, e618, W618, st618⟩ := stI X604 hx hZ e604 Ar618 (j := (0 : Int32)) hin618 (g := (mkF m 76 #[.val (.int p1), .val (.int p2), .val (.int p3), .val (.int p4), .val (.int p5), .val (.int p6), .val (.int (1 : Int32)), .val (.int (1 : Int32)), .val (.ref b564), .val (.ref b565), .val (.ref b567), .val (.ref b574), .val (.int (0 : Int32))] [(.int p3), (.int (0 : Int32)), (.ref b565)])) rfl rfl (hb hby at_76)
      have Q619 : Exa Z h618 b567 "com/example/axiomwright/axiomwright/Arcs" := Q606.wr W618
      have Q620 : Exa Z h618 b574 "com/example/axiomwright/axiomwright/Arcs" := Q607.wr W618
      have Q621 : Fld Z h618 b574 "com/example/axiomwright/axiomwright/Arcs" "from" "[I" (.ref b1_583) := Q608.other W618 (Or.inl (Ne.symm ne574_b565))
      have Q622 : Fld Z h618 b574 "com/example/axiomwright/axiomwright/Arcs" "to" "[I" (.ref b2_583) := Q609.other W618 (Or.inl (Ne.symm ne574_b565))
      have Q623 : Fld Z h618 b574 "com/example/axiomwright/axiomwright/Arcs" "size" "I" (.int (0 : Int32)) := Q610.other W618 (Or.inl (Ne.symm ne574_b565))
      have Q624 : Arv Z h618 b1_583 k1_583 .int (16 : Int32) [(.int (0 : Int32)), (.int (0 : Int32)), (.int (0 : Int32)), (.int (0 : Int32)), (.int (0 : Int32)), (.int (0 : Int32)), (.int (0 : Int32)), (.int (0 : Int32)), (.int (0 : Int32)), (.int (0 : Int32)), (.int (0 : Int32)), (.int (0 : Int32)), (.int (0 : Int32)), (.int (0 : Int32)), (.int (0 : Int32)), (.int (0 : Int32))] (.int (0 : Int32)) := Q611.other W618 (Ne.symm ne_b565_b1_583)
      have Q625 : Arv Z h618 b2_583 k2_583 .int (16 : Int32) [(.int (0 : Int32)), (.int (0 : Int32)), (.int (0 : Int32)), (.int (0 : Int32)), (.int (0 : Int32)), (.int (0 : Int32)), (.int (0 : Int32)), (.int (0 : Int32)), (.int (0 : Int32)), (.int (0 : Int32)), (.int (0 : Int32)), (.int (0 : Int32)), (.int (0 : Int32)), (.int (0 : Int32)), (.int (0 : Int32)), (.int (0 : Int32))] (.int (0 : Int32)) := Q612.other W618 (Ne.symm ne_b565_b2_583)
      have Q626 : Fld Z h618 b567 "com/example/axiomwright/axiomwright/Arcs" "size" "I" (.int (1 : Int32)) := Q613.other W618 (Or.inl (Ne.symm ne567_b565))
      have Q627 : Fld Z h618 b567 "com/example/axiomwright/axiomwright/Arcs" "from" "[I" (.ref b1_570) := Q614.other W618 (Or.inl (Ne.symm ne567_b565))
      have Q628 : Fld Z h618 b567 "com/example/axiomwright/axiomwright/Arcs" "to" "[I" (.ref b2_570) := Q615.other W618 (Or.inl (Ne.symm ne567_b565))
      have Q629 : Arv Z h618 b1_570 k1_570 .int (16 : Int32) [(.int p2), (.int (0 : Int32)), (.int (0 : Int32)), (.int (0 : Int32)), (.int (0 : Int32)), (.int (0 : Int32)), (.int (0 : Int32)), (.int (0 : Int32)), (.int (0 : Int32)), (.int (0 : Int32)), (.int (0 : Int32)), (.int (0 : Int32)), (.int (0 : Int32)), (.int (0 : Int32)), (.int (0 : Int32)), (.int (0 : Int32))] (.int (0 : Int32)) := Q616.other W618 (Ne.symm ne_b565_b1_570)
      have Q630 : Arv Z h618 b2_570 k2_570 .int (16 : Int32) [(.int p3), (.int (0 : Int32)), (.int (0 : Int32)), (.int (0 : Int32)), (.int (0 : Int32)), (.int (0 : Int32)), (.int (0 : Int32)), (.int (0 : Int32)), (.int (0 : Int32)), (.int (0 : Int32)), (.int (0 : Int32)), (.int (0 : Int32)), (.int (0 : Int32)), (.int (0 : Int32)), (.int (0 : Int32)), (.int (0 : Int32))] (.int (0 : Int32)) := Q617.other W618 (Ne.symm ne_b565_b2_570)
      have Q631 : Arv Z h618 b564 k564 .int (3 : Int32) [(.int p2), (.int (0 : Int32)), (.int (0 : Int32))] (.int (0 : Int32)) := U604.other W618 ne565_b564
      have U618 : Arv Z h618 b565 k565 .int (3 : Int32) [(.int p3), (.int (0 : Int32)), (.int (0 : Int32))] (.int (0 : Int32)) := Arv.set Ar618 q618 S618 M618 Ha618 G618 rfl W618 0 rfl (Nat.le_of_ble_eq_true rfl)
      have Z618 : n0 ≤ h618.size := Nat.le_trans Z604 (Keep.of_wr W618).1
      have N618 := Fr.snoc X618 N604 low565
      have K618 := K604.wr W618 (Or.inr sz565)
      refine own_go st618 ?_
      refine own_go (A := T618.setTop (mkF m 77 #[.val (.int p1), .val (.int p2), .val (.int p3), .val (.int p4), .val (.int p5), .val (.int p6), .val (.int (1 : Int32)), .val (.int (1 : Int32)), .val (.ref b564), .val (.ref b565), .val (.ref b567), .val (.ref b574), .val (.int (0 : Int32))] [])) (B := T618.setTop (mkF m 91 #[.val (.int p1), .val (.int p2), .val (.int p3), .val (.int p4), .val (.int p5), .val (.int p6), .val (.int (1 : Int32)), .val (.int (1 : Int32)), .val (.ref b564), .val (.ref b565), .val (.ref b567), .val (.ref b574), .val (.int (1 : Int32))] [(.int p5), (.int p4), (.ref b574)])) (fun t k => ?_) ?_
      · show Steps p.tables e below (T618.setTop (mkF m 77 #[.val (.int p1), .val (.int p2), .val (.int p3), .val (.int p4), .val (.int p5), .val (.int p6), .val (.int (1 : Int32)), .val (.int (1 : Int32)), .val (.ref b564), .val (.ref b565), .val (.ref b567), .val (.ref b574), .val (.int (0 : Int32))] [])) _
        refine XS.iinc X618.here hx rfl (hb hby at_77) rfl (l' := #[.val (.int p1), .val (.int p2), .val (.int p3), .val (.int p4), .val (.int p5), .val (.int p6), .val (.int (1 : Int32)), .val (.int (1 : Int32)), .val (.ref b564), .val (.ref b565), .val (.ref b567), .val (.ref b574), .val (.int (1 : Int32))]) rfl ?_
        show Steps p.tables e below (T618.setTop (mkF m 80 #[.val (.int p1), .val (.int p2), .val (.int p3), .val (.int p4), .val (.int p5), .val (.int p6), .val (.int (1 : Int32)), .val (.int (1 : Int32)), .val (.ref b564), .val (.ref b565), .val (.ref b567), .val (.ref b574), .val (.int (1 : Int32))] [])) _
        refine XS.iload X618.here hx rfl (hb hby at_80) rfl ?_
        show Steps p.tables e below (T618.setTop (mkF m 82 #[.val (.int p1), .val (.int p2), .val (.int p3), .val (.int p4), .val (.int p5), .val (.int p6), .val (.int (1 : Int32)), .val (.int (1 : Int32)), .val (.ref b564), .val (.ref b565), .val (.ref b567), .val (.ref b574), .val (.int (1 : Int32))] [(.int (1 : Int32))])) _
        refine XS.iconst X618.here hx rfl (hb hby at_82) ?_
        show Steps p.tables e below (T618.setTop (mkF m 83 #[.val (.int p1), .val (.int p2), .val (.int p3), .val (.int p4), .val (.int p5), .val (.int p6), .val (.int (1 : Int32)), .val (.int (1 : Int32)), .val (.ref b564), .val (.ref b565), .val (.ref b567), .val (.ref b574), .val (.int (1 : Int32))] [(.int (1 : Int32)), (.int (1 : Int32))])) _
        refine XS.icmpNo X618.here hx rfl (hb hby at_83) rfl (flt Int32.lt_irrefl).1 ?_
        show Steps p.tables e below (T618.setTop (mkF m 86 #[.val (.int p1), .val (.int p2), .val (.int p3), .val (.int p4), .val (.int p5), .val (.int p6), .val (.int (1 : Int32)), .val (.int (1 : Int32)), .val (.ref b564), .val (.ref b565), .val (.ref b567), .val (.ref b574), .val (.int (1 : Int32))] [])) _
        refine XS.aload X618.here hx rfl (hb hby at_86) rfl rfl ?_
        show Steps p.tables e below (T618.setTop (mkF m 88 #[.val (.int p1), .val (.int p2), .val (.int p3), .val (.int p4), .val (.int p5), .val (.int p6), .val (.int (1 : Int32)), .val (.int (1 : Int32)), .val (.ref b564), .val (.ref b565), .val (.ref b567), .val (.ref b574), .val (.int (1 : Int32))] [(.ref b574)])) _
        refine XS.iloadN X618.here hx rfl (hb hby at_88) rfl ?_
        show Steps p.tables e below (T618.setTop (mkF m 89 #[.val (.int p1), .val (.int p2), .val (.int p3), .val (.int p4), .val (.int p5), .val (.int p6), .val (.int (1 : Int32)), .val (.int (1 : Int32)), .val (.ref b564), .val (.ref b565), .val (.ref b567), .val (.ref b574), .val (.int (1 : Int32))] [(.int p4), (.ref b574)])) _
        refine XS.iload X618.here hx rfl (hb hby at_89) rfl ?_
        exact k
      obtain ⟨cq633, kq633, q633a, q633b, q633c⟩ := isOf hZ e618 Q620
      obtain ⟨_, _, ⟨T633, L633, k633, n633⟩, -, X633, ⟨Lc633, hQ633, l633, y633, z633⟩, st633⟩ := X618.virtualBack hx (y := (⟨"com/example/axiomwright/axiomwright/Arcs", "add", "(II)V"⟩ : MethodName)) (z := (⟨"com/example/axiomwright/axiomwright/Arcs", "add", "(II)V"⟩ : MethodName)) hown (mvT hZ (hw _ (List.mem_of_getElem? (i := 30) rfl))) (mvT hZ (hw _ (List.mem_of_getElem? (i := 31) rfl))) (notFace_of_selects (args := #[]) (mvT hZ (hw _ (List.mem_of_getElem? (i := 33) rfl)))) (mvT hZ (hw _ (List.mem_of_getElem? (i := 33) rfl))) (mvT hZ (hw _ (List.mem_of_getElem? (i := 32) rfl))) (by decide) (backOf (W := 0) (rm6 l Z a0 hw [] b574 p4 p5 (0 : Int32) b1_583 b2_583 k1_583 k2_583 [(.int (0 : Int32)), (.int (0 : Int32)), (.int (0 : Int32)), (.int (0 : Int32)), (.int (0 : Int32)), (.int (0 : Int32)), (.int (0 : Int32)), (.int (0 : Int32)), (.int (0 : Int32)), (.int (0 : Int32)), (.int (0 : Int32)), (.int (0 : Int32)), (.int (0 : Int32)), (.int (0 : Int32)), (.int (0 : Int32)), (.int (0 : Int32))] [(.int (0 : Int32)), (.int (0 : Int32)), (.int (0 : Int32)), (.int (0 : Int32)), (.int (0 : Int32)), (.int (0 : Int32)), (.int (0 : Int32)), (.int (0 : Int32)), (.int (0 : Int32)), (.int (0 : Int32)), (.int (0 : Int32)), (.int (0 : Int32)), (.int (0 : Int32)), (.int (0 : Int32)), (.int (0 : Int32)), (.int (0 : Int32))] h618 n0 Z618 Q620 Q623 Q621 Q622 Q624 Q625 low574 low_b1_583 low_b2_583 ne_b574_b1_583 ne_b574_b2_583 pq583_0 (by decide) (by decide) (by decide) (Nat.le_of_ble_eq_true rfl) (Nat.le_of_ble_eq_true rfl)) hZ (hw _ (List.mem_of_getElem? (i := 34) rfl)) (hw _ (List.mem_of_getElem? (i := 3) rfl)) (by decide) (by decide)) q633a q633c (g := (mkF m 91 #[.val (.int p1), .val (.int p2), .val (.int p3), .val (.int p4), .val (.int p5), .val (.int p6), .val (.int (1 : Int32)), .val (.int (1 : Int32)), .val (.ref b564), .val (.ref b565), .val (.ref b567), .val (.ref b574), .val (.int (1 : Int32))] [(.int p5), (.int p4), (.ref b574)])) rfl (by rw [hml]; rfl) (Steps.refl _) (argsL := [(.int p4), (.int p5)]) (rest := []) (lenOf pd_0 rfl) rfl (by show 2 * 0 + _ ≤ _; exact Nat.le_of_eq rfl) (hb hby at_91) (fun _ _ => ⟨rfl, e618, (by decide : 8 + 0 ≤ _), (by decide : 76 + 0 ≤ _)⟩)
      dsimp only [Pt.U, Pt.locs, Pt.cells, Pt.slots] at X633 l633 y633 z633 st633 hQ633
      subst l633 y633 z633
      obtain ⟨rfl, Nq633, Kq633, U633_0, U633_1, U633_2, U633_3, U633_4⟩ := hQ633
      have Q634 : Exa Z T633.heap b567 "com/example/axiomwright/axiomwright/Arcs" := Q619.keep Kq633
      have Q635 : Exa Z T633.heap b574 "com/example/axiomwright/axiomwright/Arcs" := Q620.keep Kq633
      have Q636 : Fld Z T633.heap b567 "com/example/axiomwright/axiomwright/Arcs" "size" "I" (.int (1 : Int32)) := Q626.keep Kq633 (ninS ne574_b567 (ninS ne_b567_b1_583 (ninS ne_b567_b2_583 nin0)))
      have Q637 : Fld Z T633.heap b567 "com/example/axiomwright/axiomwright/Arcs" "from" "[I" (.ref b1_570) := Q627.keep Kq633 (ninS ne574_b567 (ninS ne_b567_b1_583 (ninS ne_b567_b2_583 nin0)))
      have Q638 : Fld Z T633.heap b567 "com/example/axiomwright/axiomwright/Arcs" "to" "[I" (.ref b2_570) := Q628.keep Kq633 (ninS ne574_b567 (ninS ne_b567_b1_583 (ninS ne_b567_b2_583 nin0)))
      have Q639 : Arv Z T633.heap b1_570 k1_570 .int (16 : Int32) [(.int p2), (.int (0 : Int32)), (.int (0 : Int32)), (.int (0 : Int32)), (.int (0 : Int32)), (.int (0 : Int32)), (.int (0 : Int32)), (.int (0 : Int32)), (.int (0 : Int32)), (.int (0 : Int32)), (.int (0 : Int32)), (.int (0 : Int32)), (.int (0 : Int32)), (.int (0 : Int32)), (.int (0 : Int32)), (.int (0 : Int32))] (.int (0 : Int32)) := Q629.keep Kq633 (ninS ne574_b1_570 (ninS ne_b1_570_b1_583 (ninS ne_b1_570_b2_583 nin0)))
      have Q640 : Arv Z T633.heap b2_570 k2_570 .int (16 : Int32) [(.int p3), (.int (0 : Int32)), (.int (0 : Int32)), (.int (0 : Int32)), (.int (0 : Int32)), (.int (0 : Int32)), (.int (0 : Int32)), (.int (0 : Int32)), (.int (0 : Int32)), (.int (0 : Int32)), (.int (0 : Int32)), (.int (0 : Int32)), (.int (0 : Int32)), (.int (0 : Int32)), (.int (0 : Int32)), (.int (0 : Int32))] (.int (0 : Int32)) := Q630.keep Kq633 (ninS ne574_b2_570 (ninS ne_b2_570_b1_583 (ninS ne_b2_570_b2_583 nin0)))
      have Q641 : Arv Z T633.heap b564 k564 .int (3 : Int32) [(.int p2), (.int (0 : Int32)), (.int (0 : Int32))] (.int (0 : Int32)) := Q631.keep Kq633 (ninS ne574_b564 (ninS ne_b564_b1_583 (ninS ne_b564_b2_583 nin0)))
      have Q642 : Arv Z T633.heap b565 k565 .int (3 : Int32) [(.int p3), (.int (0 : Int32)), (.int (0 : Int32))] (.int (0 : Int32)) := U618.keep Kq633 (ninS ne574_b565 (ninS ne_b565_b1_583 (ninS ne_b565_b2_583 nin0)))
      have U633_0n : Fld Z T633.heap b574 "com/example/axiomwright/axiomwright/Arcs" "size" "I" (.int (1 : Int32)) := U633_0
      have U633_3n : Arv Z T633.heap b1_583 k1_583 .int (16 : Int32) [(.int p4), (.int (0 : Int32)), (.int (0 : Int32)), (.int (0 : Int32)), (.int (0 : Int32)), (.int (0 : Int32)), (.int (0 : Int32)), (.int (0 : Int32)), (.int (0 : Int32)), (.int (0 : Int32)), (.int (0 : Int32)), (.int (0 : Int32)), (.int (0 : Int32)), (.int (0 : Int32)), (.int (0 : Int32)), (.int (0 : Int32))] (.int (0 : Int32)) := U633_3
      have U633_4n : Arv Z T633.heap b2_583 k2_583 .int (16 : Int32) [(.int p5), (.int (0 : Int32)), (.int (0 : Int32)), (.int (0 : Int32)), (.int (0 : Int32)), (.int (0 : Int32)), (.int (0 : Int32)), (.int (0 : Int32)), (.int (0 : Int32)), (.int (0 : Int32)), (.int (0 : Int32)), (.int (0 : Int32)), (.int (0 : Int32)), (.int (0 : Int32)), (.int (0 : Int32)), (.int (0 : Int32))] (.int (0 : Int32)) := U633_4
      have Z633 : n0 ≤ T633.heap.size := Nat.le_trans Z618 Kq633.1
      have K633 : Keep h0 T633.heap [] := K618.trans Kq633 (allS (Or.inr sz574) (allS (Or.inr sz_b1_583) (allS (Or.inr sz_b2_583) all0)))
      have N633 := Fr.app N618 Nq633
      refine own_go (A := _) (B := T633.setTop (mkF m 94 #[.val (.int p1), .val (.int p2), .val (.int p3), .val (.int p4), .val (.int p5), .val (.int p6), .val (.int (1 : Int32)), .val (.int (1 : Int32)), .val (.ref b564), .val (.ref b565), .val (.ref b567), .val (.ref b574), .val (.int (1 : Int32))] [])) (fun t k => st633.trans k) ?_
      refine own_go (A := T633.setTop (mkF m 94 #[.val (.int p1), .val (.int p2), .val (.int p3), .val (.int p4), .val (.int p5), .val (.int p6), .val (.int (1 : Int32)), .val (.int (1 : Int32)), .val (.ref b564), .val (.ref b565), .val (.ref b567), .val (.ref b574), .val (.int (1 : Int32))] [])) (B := T633.setTop (mkF m 99 #[.val (.int p1), .val (.int p2), .val (.int p3), .val (.int p4), .val (.int p5), .val (.int p6), .val (.int (1 : Int32)), .val (.int (1 : Int32)), .val (.ref b564), .val (.ref b565), .val (.ref b567), .val (.ref b574), .val (.int (1 : Int32))] [(.int p4), (.int (1 : Int32)), (.ref b564)])) (fun t k => ?_) ?_
      · show Steps p.tables e below (T633.setTop (mkF m 94 #[.val (.int p1), .val (.int p2), .val (.int p3), .val (.int p4), .val (.int p5), .val (.int p6), .val (.int (1 : Int32)), .val (.int (1 : Int32)), .val (.ref b564), .val (.ref b565), .val (.ref b567), .val (.ref b574), .val (.int (1 : Int32))] [])) _
        refine XS.aload X633.here hx rfl (hb hby at_94) rfl rfl ?_
        show Steps p.tables e below (T633.setTop (mkF m 96 #[.val (.int p1), .val (.int p2), .val (.int p3), .val (.int p4), .val (.int p5), .val (.int p6), .val (.int (1 : Int32)), .val (.int (1 : Int32)), .val (.ref b564), .val (.ref b565), .val (.ref b567), .val (.ref b574), .val (.int (1 : Int32))] [(.ref b564)])) _
        refine XS.iload X633.here hx rfl (hb hby at_96) rfl ?_
        show Steps p.tables e below (T633.setTop (mkF m 98 #[.val (.int p1), .val (.int p2), .val (.int p3), .val (.int p4), .val (.int p5), .val (.int p6), .val (.int (1 : Int32)), .val (.int (1 : Int32)), .val (.ref b564), .val (.ref b565), .val (.ref b567), .val (.ref b574), .val (.int (1 : Int32))] [(.int (1 : Int32)), (.ref b564)])) _
        refine XS.iloadN X633.here hx rfl (hb hby at_98) rfl ?_
        exact k
      obtain ⟨cl643, Ar643, q643, S643, M643, Ha643, G643⟩ := Q641
      have hin643 : ¬ ((1 : Int32) < 0 ∨ cl643.slots.size ≤ ((1 : Int32)).toNatClampNeg) := inb_of S643 ⟨by decide, by decide⟩
      obtain ⟨T643, h643, X643, e643, W643, st643⟩ := stI X633 hx hZ rfl Ar643 (j := (1 : Int32)) hin643 (g := (mkF m 99 #[.val (.int p1), .val (.int p2), .val (.int p3), .val (.int p4), .val (.int p5), .val (.int p6), .val (.int (1 : Int32)), .val (.int (1 : Int32)), .val (.ref b564), .val (.ref b565), .val (.ref b567), .val (.ref b574), .val (.int (1 : Int32))] [(.int p4), (.int (1 : Int32)), (.ref b564)])) rfl rfl (hb hby at_99)
      have Q644 : Exa Z h643 b567 "com/example/axiomwright/axiomwright/Arcs" := Q634.wr W643
      have Q645 : Exa Z h643 b574 "com/example/axiomwright/axiomwright/Arcs" := Q635.wr W643
      have Q646 : Fld Z h643 b567 "com/example/axiomwright/axiomwright/Arcs" "size" "I" (.int (1 : Int32)) := Q636.other W643 (Or.inl (Ne.symm ne567_b564))
      have Q647 : Fld Z h643 b567 "com/example/axiomwright/axiomwright/Arcs" "from" "[I" (.ref b1_570) := Q637.other W643 (Or.inl (Ne.symm ne567_b564))
      have Q648 : Fld Z h643 b567 "com/example/axiomwright/axiomwright/Arcs" "to" "[I" (.ref b2_570) := Q638.other W643 (Or.inl (Ne.symm ne567_b564))
      have Q649 : Arv Z h643 b1_570 k1_570 .int (16 : Int32) [(.int p2), (.int (0 : Int32)), (.int (0 : Int32)), (.int (0 : Int32)), (.int (0 : Int32)), (.int (0 : Int32)), (.int (0 : Int32)), (.int (0 : Int32)), (.int (0 : Int32)), (.int (0 : Int32)), (.int (0 : Int32)), (.int (0 : Int32)), (.int (0 : Int32)), (.int (0 : Int32)), (.int (0 : Int32)), (.int (0 : Int32))] (.int (0 : Int32)) := Q639.other W643 (Ne.symm ne_b564_b1_570)
      have Q650 : Arv Z h643 b2_570 k2_570 .int (16 : Int32) [(.int p3), (.int (0 : Int32)), (.int (0 : Int32)), (.int (0 : Int32)), (.int (0 : Int32)), (.int (0 : Int32)), (.int (0 : Int32)), (.int (0 : Int32)), (.int (0 : Int32)), (.int (0 : Int32)), (.int (0 : Int32)), (.int (0 : Int32)), (.int (0 : Int32)), (.int (0 : Int32)), (.int (0 : Int32)), (.int (0 : Int32))] (.int (0 : Int32)) := Q640.other W643 (Ne.symm ne_b564_b2_570)
      have Q651 : Arv Z h643 b565 k565 .int (3 : Int32) [(.int p3), (.int (0 : Int32)), (.int (0 : Int32))] (.int (0 : Int32)) := Q642.other W643 (Ne.symm ne565_b564)
      have Q652 : Fld Z h643 b574 "com/example/axiomwright/axiomwright/Arcs" "size" "I" (.int (1 : Int32)) := U633_0n.other W643 (Or.inl (Ne.symm ne574_b564))
      have Q653 : Fld Z h643 b574 "com/example/axiomwright/axiomwright/Arcs" "from" "[I" (.ref b1_583) := U633_1.other W643 (Or.inl (Ne.symm ne574_b564))
      have Q654 : Fld Z h643 b574 "com/example/axiomwright/axiomwright/Arcs" "to" "[I" (.ref b2_583) := U633_2.other W643 (Or.inl (Ne.symm ne574_b564))
      have Q655 : Arv Z h643 b1_583 k1_583 .int (16 : Int32) [(.int p4), (.int (0 : Int32)), (.int (0 : Int32)), (.int (0 : Int32)), (.int (0 : Int32)), (.int (0 : Int32)), (.int (0 : Int32)), (.int (0 : Int32)), (.int (0 : Int32)), (.int (0 : Int32)), (.int (0 : Int32)), (.int (0 : Int32)), (.int (0 : Int32)), (.int (0 : Int32)), (.int (0 : Int32)), (.int (0 : Int32))] (.int (0 : Int32)) := U633_3n.other W643 (Ne.symm ne_b564_b1_583)
      have Q656 : Arv Z h643 b2_583 k2_583 .int (16 : Int32) [(.int p5), (.int (0 : Int32)), (.int (0 : Int32)), (.int (0 : Int32)), (.int (0 : Int32)), (.int (0 : Int32)), (.int (0 : Int32)), (.int (0 : Int32)), (.int (0 : Int32)), (.int (0 : Int32)), (.int (0 : Int32)), (.int (0 : Int32)), (.int (0 : Int32)), (.int (0 : Int32)), (.int (0 : Int32)), (.int (0 : Int32))] (.int (0 : Int32)) := U633_4n.other W643 (Ne.symm ne_b564_b2_583)
      have U643 : Arv Z h643 b564 k564 .int (3 : Int32) [(.int p2), (.int p4), (.int (0 : Int32))] (.int (0 : Int32)) := Arv.set Ar643 q643 S643 M643 Ha643 G643 rfl W643 1 rfl (Nat.le_of_ble_eq_true rfl)
      have Z643 : n0 ≤ h643.size := Nat.le_trans Z633 (Keep.of_wr W643).1
      have N643 := Fr.snoc X643 N633 low564
      have K643 := K633.wr W643 (Or.inr sz564)
      refine own_go st643 ?_
      refine own_go (A := T643.setTop (mkF m 100 #[.val (.int p1), .val (.int p2), .val (.int p3), .val (.int p4), .val (.int p5), .val (.int p6), .val (.int (1 : Int32)), .val (.int (1 : Int32)), .val (.ref b564), .val (.ref b565), .val (.ref b567), .val (.ref b574), .val (.int (1 : Int32))] [])) (B := T643.setTop (mkF m 106 #[.val (.int p1), .val (.int p2), .val (.int p3), .val (.int p4), .val (.int p5), .val (.int p6), .val (.int (1 : Int32)), .val (.int (1 : Int32)), .val (.ref b564), .val (.ref b565), .val (.ref b567), .val (.ref b574), .val (.int (1 : Int32))] [(.int p5), (.int (1 : Int32)), (.ref b565)])) (fun t k => ?_) ?_
      · show Steps p.tables e below (T643.setTop (mkF m 100 #[.val (.int p1), .val (.int p2), .val (.int p3), .val (.int p4), .val (.int p5), .val (.int p6), .val (.int (1 : Int32)), .val (.int (1 : Int32)), .val (.ref b564), .val (.ref b565), .val (.ref b567), .val (.ref b574), .val (.int (1 : Int32))] [])) _
        refine XS.aload X643.here hx rfl (hb hby at_100) rfl rfl ?_
        show Steps p.tables e below (T643.setTop (mkF m 102 #[.val (.int p1), .val (.int p2), .val (.int p3), .val (.int p4), .val (.int p5), .val (.int p6), .val (.int (1 : Int32)), .val (.int (1 : Int32)), .val (.ref b564), .val (.ref b565), .val (.ref b567), .val (.ref b574), .val (.int (1 : Int32))] [(.ref b565)])) _
        refine XS.iload X643.here hx rfl (hb hby at_102) rfl ?_
        show Steps p.tables e below (T643.setTop (mkF m 104 #[.val (.int p1), .val (.int p2), .val (.int p3), .val (.int p4), .val (.int p5), .val (.int p6), .val (.int (1 : Int32)), .val (.int (1 : Int32)), .val (.ref b564), .val (.ref b565), .val (.ref b567), .val (.ref b574), .val (.int (1 : Int32))] [(.int (1 : Int32)), (.ref b565)])) _
        refine XS.iload X643.here hx rfl (hb hby at_104) rfl ?_
        exact k
      obtain ⟨cl657, Ar657, q657, S657, M657, Ha657, G657⟩ := Q651
      have hin657 : ¬ ((1 : Int32) < 0 ∨ cl657.slots.size ≤ ((1 : Int32)).toNatClampNeg) := inb_of S657 ⟨by decide, by decide⟩
      obtain ⟨T657, h657, X657, e657, W657, st657⟩ := stI X643 hx hZ e643 Ar657 (j := (1 : Int32)) hin657 (g := (mkF m 106 #[.val (.int p1), .val (.int p2), .val (.int p3), .val (.int p4), .val (.int p5), .val (.int p6), .val (.int (1 : Int32)), .val (.int (1 : Int32)), .val (.ref b564), .val (.ref b565), .val (.ref b567), .val (.ref b574), .val (.int (1 : Int32))] [(.int p5), (.int (1 : Int32)), (.ref b565)])) rfl rfl (hb hby at_106)
      have Q658 : Exa Z h657 b567 "com/example/axiomwright/axiomwright/Arcs" := Q644.wr W657
      have Q659 : Exa Z h657 b574 "com/example/axiomwright/axiomwright/Arcs" := Q645.wr W657
      have Q660 : Fld Z h657 b567 "com/example/axiomwright/axiomwright/Arcs" "size" "I" (.int (1 : Int32)) := Q646.other W657 (Or.inl (Ne.symm ne567_b565))
      have Q661 : Fld Z h657 b567 "com/example/axiomwright/axiomwright/Arcs" "from" "[I" (.ref b1_570) := Q647.other W657 (Or.inl (Ne.symm ne567_b565))
      have Q662 : Fld Z h657 b567 "com/example/axiomwright/axiomwright/Arcs" "to" "[I" (.ref b2_570) := Q648.other W657 (Or.inl (Ne.symm ne567_b565))
      have Q663 : Arv Z h657 b1_570 k1_570 .int (16 : Int32) [(.int p2), (.int (0 : Int32)), (.int (0 : Int32)), (.int (0 : Int32)), (.int (0 : Int32)), (.int (0 : Int32)), (.int (0 : Int32)), (.int (0 : Int32)), (.int (0 : Int32)), (.int (0 : Int32)), (.int (0 : Int32)), (.int (0 : Int32)), (.int (0 : Int32)), (.int (0 : Int32)), (.int (0 : Int32)), (.int (0 : Int32))] (.int (0 : Int32)) := Q649.other W657 (Ne.symm ne_b565_b1_570)
      have Q664 : Arv Z h657 b2_570 k2_570 .int (16 : Int32) [(.int p3), (.int (0 : Int32)), (.int (0 : Int32)), (.int (0 : Int32)), (.int (0 : Int32)), (.int (0 : Int32)), (.int (0 : Int32)), (.int (0 : Int32)), (.int (0 : Int32)), (.int (0 : Int32)), (.int (0 : Int32)), (.int (0 : Int32)), (.int (0 : Int32)), (.int (0 : Int32)), (.int (0 : Int32)), (.int (0 : Int32))] (.int (0 : Int32)) := Q650.other W657 (Ne.symm ne_b565_b2_570)
      have Q665 : Fld Z h657 b574 "com/example/axiomwright/axiomwright/Arcs" "size" "I" (.int (1 : Int32)) := Q652.other W657 (Or.inl (Ne.symm ne574_b565))
      have Q666 : Fld Z h657 b574 "com/example/axiomwright/axiomwright/Arcs" "from" "[I" (.ref b1_583) := Q653.other W657 (Or.inl (Ne.symm ne574_b565))
      have Q667 : Fld Z h657 b574 "com/example/axiomwright/axiomwright/Arcs" "to" "[I" (.ref b2_583) := Q654.other W657 (Or.inl (Ne.symm ne574_b565))
      have Q668 : Arv Z h657 b1_583 k1_583 .int (16 : Int32) [(.int p4), (.int (0 : Int32)), (.int (0 : Int32)), (.int (0 : Int32)), (.int (0 : Int32)), (.int (0 : Int32)), (.int (0 : Int32)), (.int (0 : Int32)), (.int (0 : Int32)), (.int (0 : Int32)), (.int (0 : Int32)), (.int (0 : Int32)), (.int (0 : Int32)), (.int (0 : Int32)), (.int (0 : Int32)), (.int (0 : Int32))] (.int (0 : Int32)) := Q655.other W657 (Ne.symm ne_b565_b1_583)
      have Q669 : Arv Z h657 b2_583 k2_583 .int (16 : Int32) [(.int p5), (.int (0 : Int32)), (.int (0 : Int32)), (.int (0 : Int32)), (.int (0 : Int32)), (.int (0 : Int32)), (.int (0 : Int32)), (.int (0 : Int32)), (.int (0 : Int32)), (.int (0 : Int32)), (.int (0 : Int32)), (.int (0 : Int32)), (.int (0 : Int32)), (.int (0 : Int32)), (.int (0 : Int32)), (.int (0 : Int32))] (.int (0 : Int32)) := Q656.other W657 (Ne.symm ne_b565_b2_583)
      have Q670 : Arv Z h657 b564 k564 .int (3 : Int32) [(.int p2), (.int p4), (.int (0 : Int32))] (.int (0 : Int32)) := U643.other W657 ne565_b564
      have U657 : Arv Z h657 b565 k565 .int (3 : Int32) [(.int p3), (.int p5), (.int (0 : Int32))] (.int (0 : Int32)) := Arv.set Ar657 q657 S657 M657 Ha657 G657 rfl W657 1 rfl (Nat.le_of_ble_eq_true rfl)
      have Z657 : n0 ≤ h657.size := Nat.le_trans Z643 (Keep.of_wr W657).1
      have N657 := Fr.snoc X657 N643 low565
      have K657 := K643.wr W657 (Or.inr sz565)
      refine own_go st657 ?_
      refine own_go (A := T657.setTop (mkF m 107 #[.val (.int p1), .val (.int p2), .val (.int p3), .val (.int p4), .val (.int p5), .val (.int p6), .val (.int (1 : Int32)), .val (.int (1 : Int32)), .val (.ref b564), .val (.ref b565), .val (.ref b567), .val (.ref b574), .val (.int (1 : Int32))] [])) (B := T657.setTop (mkF m 144 #[.val (.int p1), .val (.int p2), .val (.int p3), .val (.int p4), .val (.int p5), .val (.int p6), .val (.int (1 : Int32)), .val (.int (1 : Int32)), .val (.ref b564), .val (.ref b565), .val (.ref b567), .val (.ref b574), .val (.int (2 : Int32))] [(.ref b574), (.ref b567)])) (fun t k => ?_) ?_
      · show Steps p.tables e below (T657.setTop (mkF m 107 #[.val (.int p1), .val (.int p2), .val (.int p3), .val (.int p4), .val (.int p5), .val (.int p6), .val (.int (1 : Int32)), .val (.int (1 : Int32)), .val (.ref b564), .val (.ref b565), .val (.ref b567), .val (.ref b574), .val (.int (1 : Int32))] [])) _
        refine XS.iinc X657.here hx rfl (hb hby at_107) rfl (l' := #[.val (.int p1), .val (.int p2), .val (.int p3), .val (.int p4), .val (.int p5), .val (.int p6), .val (.int (1 : Int32)), .val (.int (1 : Int32)), .val (.ref b564), .val (.ref b565), .val (.ref b567), .val (.ref b574), .val (.int (2 : Int32))]) rfl ?_
        show Steps p.tables e below (T657.setTop (mkF m 110 #[.val (.int p1), .val (.int p2), .val (.int p3), .val (.int p4), .val (.int p5), .val (.int p6), .val (.int (1 : Int32)), .val (.int (1 : Int32)), .val (.ref b564), .val (.ref b565), .val (.ref b567), .val (.ref b574), .val (.int (2 : Int32))] [])) _
        refine XS.iload X657.here hx rfl (hb hby at_110) rfl ?_
        show Steps p.tables e below (T657.setTop (mkF m 112 #[.val (.int p1), .val (.int p2), .val (.int p3), .val (.int p4), .val (.int p5), .val (.int p6), .val (.int (1 : Int32)), .val (.int (1 : Int32)), .val (.ref b564), .val (.ref b565), .val (.ref b567), .val (.ref b574), .val (.int (2 : Int32))] [(.int (1 : Int32))])) _
        refine XS.iconst X657.here hx rfl (hb hby at_112) ?_
        show Steps p.tables e below (T657.setTop (mkF m 113 #[.val (.int p1), .val (.int p2), .val (.int p3), .val (.int p4), .val (.int p5), .val (.int p6), .val (.int (1 : Int32)), .val (.int (1 : Int32)), .val (.ref b564), .val (.ref b565), .val (.ref b567), .val (.ref b574), .val (.int (2 : Int32))] [(.int (2 : Int32)), (.int (1 : Int32))])) _
        refine XS.icmpYes X657.here hx rfl (pc0 := 113) (pc' := 140) rfl (hb hby at_113) rfl (tlt (by decide : ((1 : Int32) < (2 : Int32)))).1 (by decide) (by decide) ?_
        show Steps p.tables e below (T657.setTop (mkF m 140 #[.val (.int p1), .val (.int p2), .val (.int p3), .val (.int p4), .val (.int p5), .val (.int p6), .val (.int (1 : Int32)), .val (.int (1 : Int32)), .val (.ref b564), .val (.ref b565), .val (.ref b567), .val (.ref b574), .val (.int (2 : Int32))] [])) _
        refine XS.aload X657.here hx rfl (hb hby at_140) rfl rfl ?_
        show Steps p.tables e below (T657.setTop (mkF m 142 #[.val (.int p1), .val (.int p2), .val (.int p3), .val (.int p4), .val (.int p5), .val (.int p6), .val (.int (1 : Int32)), .val (.int (1 : Int32)), .val (.ref b564), .val (.ref b565), .val (.ref b567), .val (.ref b574), .val (.int (2 : Int32))] [(.ref b567)])) _
        refine XS.aload X657.here hx rfl (hb hby at_142) rfl rfl ?_
        exact k
      obtain ⟨cq672, kq672, q672a, q672b, q672c⟩ := isOf hZ e657 Q658
      obtain ⟨_, _, ⟨T672, L672, k672, n672⟩, -, X672, ⟨Lc672, hQ672, l672, y672, z672⟩, st672⟩ := X657.virtualBack hx (y := (⟨"com/example/axiomwright/axiomwright/Arcs", "addAll", "(Lcom/example/axiomwright/axiomwright/Arcs;)V"⟩ : MethodName)) (z := (⟨"com/example/axiomwright/axiomwright/Arcs", "addAll", "(Lcom/example/axiomwright/axiomwright/Arcs;)V"⟩ : MethodName)) hown (mvT hZ (hw _ (List.mem_of_getElem? (i := 14) rfl))) (mvT hZ (hw _ (List.mem_of_getElem? (i := 15) rfl))) (notFace_of_selects (args := #[]) (mvT hZ (hw _ (List.mem_of_getElem? (i := 17) rfl)))) (mvT hZ (hw _ (List.mem_of_getElem? (i := 17) rfl))) (mvT hZ (hw _ (List.mem_of_getElem? (i := 16) rfl))) (by decide) (backOf (W := 0) (rm3_1_1 l Z a0 hw [] b567 b574 b1_570 b2_570 b1_583 b2_583 k1_570 k2_570 k1_583 k2_583 p2 (0 : Int32) (0 : Int32) (0 : Int32) (0 : Int32) (0 : Int32) (0 : Int32) (0 : Int32) (0 : Int32) (0 : Int32) (0 : Int32) (0 : Int32) (0 : Int32) (0 : Int32) (0 : Int32) (0 : Int32) p3 (0 : Int32) (0 : Int32) (0 : Int32) (0 : Int32) (0 : Int32) (0 : Int32) (0 : Int32) (0 : Int32) (0 : Int32) (0 : Int32) (0 : Int32) (0 : Int32) (0 : Int32) (0 : Int32) (0 : Int32) p4 (0 : Int32) (0 : Int32) (0 : Int32) (0 : Int32) (0 : Int32) (0 : Int32) (0 : Int32) (0 : Int32) (0 : Int32) (0 : Int32) (0 : Int32) (0 : Int32) (0 : Int32) (0 : Int32) (0 : Int32) p5 (0 : Int32) (0 : Int32) (0 : Int32) (0 : Int32) (0 : Int32) (0 : Int32) (0 : Int32) (0 : Int32) (0 : Int32) (0 : Int32) (0 : Int32) (0 : Int32) (0 : Int32) (0 : Int32) (0 : Int32) h657 n0 Z657 Q658 Q660 Q661 Q662 Q663 Q664 Q665 Q666 Q667 Q668 Q669 low567 low_b1_570 low_b2_570 ne_b567_b1_570 ne_b567_b2_570 pq570_0 (Ne.symm ne574_b567) (Ne.symm ne574_b1_570) (Ne.symm ne574_b2_570) (Ne.symm ne_b567_b1_583) (Ne.symm ne_b1_570_b1_583) (Ne.symm ne_b2_570_b1_583) (Ne.symm ne_b567_b2_583) (Ne.symm ne_b1_570_b2_583) (Ne.symm ne_b2_570_b2_583)) hZ (hw _ (List.mem_of_getElem? (i := 18) rfl)) (hw _ (List.mem_of_getElem? (i := 3) rfl)) (by decide) (by decide)) q672a q672c (g := (mkF m 144 #[.val (.int p1), .val (.int p2), .val (.int p3), .val (.int p4), .val (.int p5), .val (.int p6), .val (.int (1 : Int32)), .val (.int (1 : Int32)), .val (.ref b564), .val (.ref b565), .val (.ref b567), .val (.ref b574), .val (.int (2 : Int32))] [(.ref b574), (.ref b567)])) rfl (by rw [hml]; rfl) (Steps.refl _) (argsL := [(.ref b574)]) (rest := []) (lenOf pd_3 rfl) rfl (by show 2 * 0 + _ ≤ _; exact Nat.le_of_eq rfl) (hb hby at_144) (fun _ _ => ⟨rfl, e657, (by decide : 8 + 0 ≤ _), (by decide : 76 + 0 ≤ _)⟩)
      dsimp only [Pt.U, Pt.locs, Pt.cells, Pt.slots] at X672 l672 y672 z672 st672 hQ672
      subst l672 y672 z672
      obtain ⟨rfl, Nq672, Kq672, U672_0, U672_1, U672_2, U672_3, U672_4⟩ := hQ672
      have Q673 : Exa Z T672.heap b567 "com/example/axiomwright/axiomwright/Arcs" := Q658.keep Kq672
      have Q674 : Exa Z T672.heap b574 "com/example/axiomwright/axiomwright/Arcs" := Q659.keep Kq672
      have Q675 : Fld Z T672.heap b574 "com/example/axiomwright/axiomwright/Arcs" "size" "I" (.int (1 : Int32)) := Q665.keep Kq672 (ninS (Ne.symm ne574_b567) (ninS (Ne.symm ne574_b1_570) (ninS (Ne.symm ne574_b2_570) nin0)))
      have Q676 : Fld Z T672.heap b574 "com/example/axiomwright/axiomwright/Arcs" "from" "[I" (.ref b1_583) := Q666.keep Kq672 (ninS (Ne.symm ne574_b567) (ninS (Ne.symm ne574_b1_570) (ninS (Ne.symm ne574_b2_570) nin0)))
      have Q677 : Fld Z T672.heap b574 "com/example/axiomwright/axiomwright/Arcs" "to" "[I" (.ref b2_583) := Q667.keep Kq672 (ninS (Ne.symm ne574_b567) (ninS (Ne.symm ne574_b1_570) (ninS (Ne.symm ne574_b2_570) nin0)))
      have Q678 : Arv Z T672.heap b1_583 k1_583 .int (16 : Int32) [(.int p4), (.int (0 : Int32)), (.int (0 : Int32)), (.int (0 : Int32)), (.int (0 : Int32)), (.int (0 : Int32)), (.int (0 : Int32)), (.int (0 : Int32)), (.int (0 : Int32)), (.int (0 : Int32)), (.int (0 : Int32)), (.int (0 : Int32)), (.int (0 : Int32)), (.int (0 : Int32)), (.int (0 : Int32)), (.int (0 : Int32))] (.int (0 : Int32)) := Q668.keep Kq672 (ninS (Ne.symm ne_b567_b1_583) (ninS (Ne.symm ne_b1_570_b1_583) (ninS (Ne.symm ne_b2_570_b1_583) nin0)))
      have Q679 : Arv Z T672.heap b2_583 k2_583 .int (16 : Int32) [(.int p5), (.int (0 : Int32)), (.int (0 : Int32)), (.int (0 : Int32)), (.int (0 : Int32)), (.int (0 : Int32)), (.int (0 : Int32)), (.int (0 : Int32)), (.int (0 : Int32)), (.int (0 : Int32)), (.int (0 : Int32)), (.int (0 : Int32)), (.int (0 : Int32)), (.int (0 : Int32)), (.int (0 : Int32)), (.int (0 : Int32))] (.int (0 : Int32)) := Q669.keep Kq672 (ninS (Ne.symm ne_b567_b2_583) (ninS (Ne.symm ne_b1_570_b2_583) (ninS (Ne.symm ne_b2_570_b2_583) nin0)))
      have Q680 : Arv Z T672.heap b564 k564 .int (3 : Int32) [(.int p2), (.int p4), (.int (0 : Int32))] (.int (0 : Int32)) := Q670.keep Kq672 (ninS ne567_b564 (ninS ne_b564_b1_570 (ninS ne_b564_b2_570 nin0)))
      have Q681 : Arv Z T672.heap b565 k565 .int (3 : Int32) [(.int p3), (.int p5), (.int (0 : Int32))] (.int (0 : Int32)) := U657.keep Kq672 (ninS ne567_b565 (ninS ne_b565_b1_570 (ninS ne_b565_b2_570 nin0)))
      have Z672 : n0 ≤ T672.heap.size := Nat.le_trans Z657 Kq672.1
      have K672 : Keep h0 T672.heap [] := K657.trans Kq672 (allS (Or.inr sz567) (allS (Or.inr sz_b1_570) (allS (Or.inr sz_b2_570) all0)))
      have N672 := Fr.app N657 Nq672
      refine own_go (A := _) (B := T672.setTop (mkF m 147 #[.val (.int p1), .val (.int p2), .val (.int p3), .val (.int p4), .val (.int p5), .val (.int p6), .val (.int (1 : Int32)), .val (.int (1 : Int32)), .val (.ref b564), .val (.ref b565), .val (.ref b567), .val (.ref b574), .val (.int (2 : Int32))] [])) (fun t k => st672.trans k) ?_
      refine own_go (A := T672.setTop (mkF m 147 #[.val (.int p1), .val (.int p2), .val (.int p3), .val (.int p4), .val (.int p5), .val (.int p6), .val (.int (1 : Int32)), .val (.int (1 : Int32)), .val (.ref b564), .val (.ref b565), .val (.ref b567), .val (.ref b574), .val (.int (2 : Int32))] [])) (B := T672.setTop (mkF m 149 #[.val (.int p1), .val (.int p2), .val (.int p3), .val (.int p4), .val (.int p5), .val (.int p6), .val (.int (1 : Int32)), .val (.int (1 : Int32)), .val (.ref b564), .val (.ref b565), .val (.ref b567), .val (.ref b574), .val (.int (2 : Int32))] [(.ref b567)])) (fun t k => ?_) ?_
      · show Steps p.tables e below (T672.setTop (mkF m 147 #[.val (.int p1), .val (.int p2), .val (.int p3), .val (.int p4), .val (.int p5), .val (.int p6), .val (.int (1 : Int32)), .val (.int (1 : Int32)), .val (.ref b564), .val (.ref b565), .val (.ref b567), .val (.ref b574), .val (.int (2 : Int32))] [])) _
        refine XS.aload X672.here hx rfl (hb hby at_147) rfl rfl ?_
        exact k
      obtain ⟨cq682, kq682, q682a, q682b, q682c⟩ := isOf hZ rfl Q673
      obtain ⟨_, _, ⟨T682, L682, k682, n682⟩, -, X682, ⟨Lc682, hQ682, l682, y682, z682⟩, st682⟩ := X672.virtualBack hx (y := (⟨"com/example/axiomwright/axiomwright/Arcs", "size", "()I"⟩ : MethodName)) (z := (⟨"com/example/axiomwright/axiomwright/Arcs", "size", "()I"⟩ : MethodName)) hown (mvT hZ (hw _ (List.mem_of_getElem? (i := 21) rfl))) (mvT hZ (hw _ (List.mem_of_getElem? (i := 22) rfl))) (notFace_of_selects (args := #[]) (mvT hZ (hw _ (List.mem_of_getElem? (i := 24) rfl)))) (mvT hZ (hw _ (List.mem_of_getElem? (i := 24) rfl))) (mvT hZ (hw _ (List.mem_of_getElem? (i := 23) rfl))) (by decide) (backOf (W := 0) (rm4 l Z a0 hw [] b567 (2 : Int32) T672.heap n0 Z672 U672_0) hZ (hw _ (List.mem_of_getElem? (i := 25) rfl)) (hw _ (List.mem_of_getElem? (i := 3) rfl)) (by decide) (by decide)) q682a q682c (g := (mkF m 149 #[.val (.int p1), .val (.int p2), .val (.int p3), .val (.int p4), .val (.int p5), .val (.int p6), .val (.int (1 : Int32)), .val (.int (1 : Int32)), .val (.ref b564), .val (.ref b565), .val (.ref b567), .val (.ref b574), .val (.int (2 : Int32))] [(.ref b567)])) rfl (by rw [hml]; rfl) (Steps.refl _) (argsL := []) (rest := []) (lenOf pd_4 rfl) rfl (by show 2 * 0 + _ ≤ _; exact Nat.le_of_eq rfl) (hb hby at_149) (fun _ _ => ⟨rfl, rfl, (by decide : 8 + 0 ≤ _), (by decide : 76 + 0 ≤ _)⟩)
      dsimp only [Pt.U, Pt.locs, Pt.cells, Pt.slots] at X682 l682 y682 z682 st682 hQ682
      subst l682 y682 z682
      obtain ⟨rfl, Nq682, e682⟩ := hQ682
      have N682 := Fr.app N672 Nq682
      refine own_go (A := _) (B := T682.setTop (mkF m 152 #[.val (.int p1), .val (.int p2), .val (.int p3), .val (.int p4), .val (.int p5), .val (.int p6), .val (.int (1 : Int32)), .val (.int (1 : Int32)), .val (.ref b564), .val (.ref b565), .val (.ref b567), .val (.ref b574), .val (.int (2 : Int32))] [(.int (2 : Int32))])) (fun t k => st682.trans k) ?_
      refine own_go (A := T682.setTop (mkF m 152 #[.val (.int p1), .val (.int p2), .val (.int p3), .val (.int p4), .val (.int p5), .val (.int p6), .val (.int (1 : Int32)), .val (.int (1 : Int32)), .val (.ref b564), .val (.ref b565), .val (.ref b567), .val (.ref b574), .val (.int (2 : Int32))] [(.int (2 : Int32))])) (B := T682.setTop (mkF m 161 #[.val (.int p1), .val (.int p2), .val (.int p3), .val (.int p4), .val (.int p5), .val (.int p6), .val (.int (1 : Int32)), .val (.int (1 : Int32)), .val (.ref b564), .val (.ref b565), .val (.ref b567), .val (.ref b574), .val (.int (2 : Int32))] [(.ref b574)])) (fun t k => ?_) ?_
      · show Steps p.tables e below (T682.setTop (mkF m 152 #[.val (.int p1), .val (.int p2), .val (.int p3), .val (.int p4), .val (.int p5), .val (.int p6), .val (.int (1 : Int32)), .val (.int (1 : Int32)), .val (.ref b564), .val (.ref b565), .val (.ref b567), .val (.ref b574), .val (.int (2 : Int32))] [(.int (2 : Int32))])) _
        refine XS.iload X682.here hx rfl (hb hby at_152) rfl ?_
        show Steps p.tables e below (T682.setTop (mkF m 154 #[.val (.int p1), .val (.int p2), .val (.int p3), .val (.int p4), .val (.int p5), .val (.int p6), .val (.int (1 : Int32)), .val (.int (1 : Int32)), .val (.ref b564), .val (.ref b565), .val (.ref b567), .val (.ref b574), .val (.int (2 : Int32))] [(.int (2 : Int32)), (.int (2 : Int32))])) _
        refine XS.icmpYes X682.here hx rfl (pc0 := 154) (pc' := 159) rfl (hb hby at_154) rfl (teq (rfl : (2 : Int32) = (2 : Int32))).1 (by decide) (by decide) ?_
        show Steps p.tables e below (T682.setTop (mkF m 159 #[.val (.int p1), .val (.int p2), .val (.int p3), .val (.int p4), .val (.int p5), .val (.int p6), .val (.int (1 : Int32)), .val (.int (1 : Int32)), .val (.ref b564), .val (.ref b565), .val (.ref b567), .val (.ref b574), .val (.int (2 : Int32))] [])) _
        refine XS.aload X682.here hx rfl (hb hby at_159) rfl rfl ?_
        exact k
      obtain ⟨cq684, kq684, q684a, q684b, q684c⟩ := isOf hZ e682 Q674
      obtain ⟨_, _, ⟨T684, L684, k684, n684⟩, -, X684, ⟨Lc684, hQ684, l684, y684, z684⟩, st684⟩ := X682.virtualBack hx (y := (⟨"com/example/axiomwright/axiomwright/Arcs", "size", "()I"⟩ : MethodName)) (z := (⟨"com/example/axiomwright/axiomwright/Arcs", "size", "()I"⟩ : MethodName)) hown (mvT hZ (hw _ (List.mem_of_getElem? (i := 21) rfl))) (mvT hZ (hw _ (List.mem_of_getElem? (i := 22) rfl))) (notFace_of_selects (args := #[]) (mvT hZ (hw _ (List.mem_of_getElem? (i := 24) rfl)))) (mvT hZ (hw _ (List.mem_of_getElem? (i := 24) rfl))) (mvT hZ (hw _ (List.mem_of_getElem? (i := 23) rfl))) (by decide) (backOf (W := 0) (rm4 l Z a0 hw [] b574 (1 : Int32) T672.heap n0 Z672 Q675) hZ (hw _ (List.mem_of_getElem? (i := 25) rfl)) (hw _ (List.mem_of_getElem? (i := 3) rfl)) (by decide) (by decide)) q684a q684c (g := (mkF m 161 #[.val (.int p1), .val (.int p2), .val (.int p3), .val (.int p4), .val (.int p5), .val (.int p6), .val (.int (1 : Int32)), .val (.int (1 : Int32)), .val (.ref b564), .val (.ref b565), .val (.ref b567), .val (.ref b574), .val (.int (2 : Int32))] [(.ref b574)])) rfl (by rw [hml]; rfl) (Steps.refl _) (argsL := []) (rest := []) (lenOf pd_4 rfl) rfl (by show 2 * 0 + _ ≤ _; exact Nat.le_of_eq rfl) (hb hby at_161) (fun _ _ => ⟨rfl, e682, (by decide : 8 + 0 ≤ _), (by decide : 76 + 0 ≤ _)⟩)
      dsimp only [Pt.U, Pt.locs, Pt.cells, Pt.slots] at X684 l684 y684 z684 st684 hQ684
      subst l684 y684 z684
      obtain ⟨rfl, Nq684, e684⟩ := hQ684
      have N684 := Fr.app N682 Nq684
      refine own_go (A := _) (B := T684.setTop (mkF m 164 #[.val (.int p1), .val (.int p2), .val (.int p3), .val (.int p4), .val (.int p5), .val (.int p6), .val (.int (1 : Int32)), .val (.int (1 : Int32)), .val (.ref b564), .val (.ref b565), .val (.ref b567), .val (.ref b574), .val (.int (2 : Int32))] [(.int (1 : Int32))])) (fun t k => st684.trans k) ?_
      refine own_go (A := T684.setTop (mkF m 164 #[.val (.int p1), .val (.int p2), .val (.int p3), .val (.int p4), .val (.int p5), .val (.int p6), .val (.int (1 : Int32)), .val (.int (1 : Int32)), .val (.ref b564), .val (.ref b565), .val (.ref b567), .val (.ref b574), .val (.int (2 : Int32))] [(.int (1 : Int32))])) (B := T684.setTop (mkF m 180 #[.val (.int p1), .val (.int p2), .val (.int p3), .val (.int p4), .val (.int p5), .val (.int p6), .val (.int (1 : Int32)), .val (.int (1 : Int32)), .val (.ref b564), .val (.ref b565), .val (.ref b567), .val (.ref b574), .val (.int (2 : Int32))] [(.ref b565), (.ref b564), (.int (2 : Int32)), (.int (0 : Int32)), (.ref b567)])) (fun t k => ?_) ?_
      · show Steps p.tables e below (T684.setTop (mkF m 164 #[.val (.int p1), .val (.int p2), .val (.int p3), .val (.int p4), .val (.int p5), .val (.int p6), .val (.int (1 : Int32)), .val (.int (1 : Int32)), .val (.ref b564), .val (.ref b565), .val (.ref b567), .val (.ref b574), .val (.int (2 : Int32))] [(.int (1 : Int32))])) _
        refine XS.iload X684.here hx rfl (hb hby at_164) rfl ?_
        show Steps p.tables e below (T684.setTop (mkF m 166 #[.val (.int p1), .val (.int p2), .val (.int p3), .val (.int p4), .val (.int p5), .val (.int p6), .val (.int (1 : Int32)), .val (.int (1 : Int32)), .val (.ref b564), .val (.ref b565), .val (.ref b567), .val (.ref b574), .val (.int (2 : Int32))] [(.int (1 : Int32)), (.int (1 : Int32))])) _
        refine XS.icmpYes X684.here hx rfl (pc0 := 166) (pc' := 171) rfl (hb hby at_166) rfl (teq (rfl : (1 : Int32) = (1 : Int32))).1 (by decide) (by decide) ?_
        show Steps p.tables e below (T684.setTop (mkF m 171 #[.val (.int p1), .val (.int p2), .val (.int p3), .val (.int p4), .val (.int p5), .val (.int p6), .val (.int (1 : Int32)), .val (.int (1 : Int32)), .val (.ref b564), .val (.ref b565), .val (.ref b567), .val (.ref b574), .val (.int (2 : Int32))] [])) _
        refine XS.aload X684.here hx rfl (hb hby at_171) rfl rfl ?_
        show Steps p.tables e below (T684.setTop (mkF m 173 #[.val (.int p1), .val (.int p2), .val (.int p3), .val (.int p4), .val (.int p5), .val (.int p6), .val (.int (1 : Int32)), .val (.int (1 : Int32)), .val (.ref b564), .val (.ref b565), .val (.ref b567), .val (.ref b574), .val (.int (2 : Int32))] [(.ref b567)])) _
        refine XS.iconst X684.here hx rfl (hb hby at_173) ?_
        show Steps p.tables e below (T684.setTop (mkF m 174 #[.val (.int p1), .val (.int p2), .val (.int p3), .val (.int p4), .val (.int p5), .val (.int p6), .val (.int (1 : Int32)), .val (.int (1 : Int32)), .val (.ref b564), .val (.ref b565), .val (.ref b567), .val (.ref b574), .val (.int (2 : Int32))] [(.int (0 : Int32)), (.ref b567)])) _
        refine XS.iload X684.here hx rfl (hb hby at_174) rfl ?_
        show Steps p.tables e below (T684.setTop (mkF m 176 #[.val (.int p1), .val (.int p2), .val (.int p3), .val (.int p4), .val (.int p5), .val (.int p6), .val (.int (1 : Int32)), .val (.int (1 : Int32)), .val (.ref b564), .val (.ref b565), .val (.ref b567), .val (.ref b574), .val (.int (2 : Int32))] [(.int (2 : Int32)), (.int (0 : Int32)), (.ref b567)])) _
        refine XS.aload X684.here hx rfl (hb hby at_176) rfl rfl ?_
        show Steps p.tables e below (T684.setTop (mkF m 178 #[.val (.int p1), .val (.int p2), .val (.int p3), .val (.int p4), .val (.int p5), .val (.int p6), .val (.int (1 : Int32)), .val (.int (1 : Int32)), .val (.ref b564), .val (.ref b565), .val (.ref b567), .val (.ref b574), .val (.int (2 : Int32))] [(.ref b564), (.int (2 : Int32)), (.int (0 : Int32)), (.ref b567)])) _
        refine XS.aload X684.here hx rfl (hb hby at_178) rfl rfl ?_
        exact k
      obtain ⟨_, _, ⟨T686, L686, k686, n686⟩, -, X686, ⟨Lc686, hQ686, l686, y686, z686⟩, st686⟩ := Jvm.LawKit.callS X684 hx (y := (⟨"com/example/axiomwright/axiomwright/ArcsAddAllPinLaw", "at", "(Lcom/example/axiomwright/axiomwright/Arcs;II[I[I)Z"⟩ : MethodName)) hown (mvT hZ (hw _ (List.mem_of_getElem? (i := 26) rfl))) (mvT hZ (hw _ (List.mem_of_getElem? (i := 27) rfl))) (mvT hZ (hw _ (List.mem_of_getElem? (i := 28) rfl))) (mvT hZ (hw _ (List.mem_of_getElem? (i := 29) rfl))) (by decide) (backOf (W := 0) (rm5_0_2 l Z a0 hw [] b567 b564 b565 b1_570 b2_570 k1_570 k2_570 k564 k565 p2 p4 (0 : Int32) (0 : Int32) (0 : Int32) (0 : Int32) (0 : Int32) (0 : Int32) (0 : Int32) (0 : Int32) (0 : Int32) (0 : Int32) (0 : Int32) (0 : Int32) (0 : Int32) (0 : Int32) p3 p5 (0 : Int32) (0 : Int32) (0 : Int32) (0 : Int32) (0 : Int32) (0 : Int32) (0 : Int32) (0 : Int32) (0 : Int32) (0 : Int32) (0 : Int32) (0 : Int32) (0 : Int32) (0 : Int32) p2 p4 (0 : Int32) p3 p5 (0 : Int32) T672.heap n0 Z672 Q673 U672_1 U672_2 U672_3 U672_4 Q680 Q681) hZ (hw _ (List.mem_of_getElem? (i := 29) rfl)) (hw _ (List.mem_of_getElem? (i := 28) rfl)) (by decide) (by decide)) (g := (mkF m 180 #[.val (.int p1), .val (.int p2), .val (.int p3), .val (.int p4), .val (.int p5), .val (.int p6), .val (.int (1 : Int32)), .val (.int (1 : Int32)), .val (.ref b564), .val (.ref b565), .val (.ref b567), .val (.ref b574), .val (.int (2 : Int32))] [(.ref b565), (.ref b564), (.int (2 : Int32)), (.int (0 : Int32)), (.ref b567)])) rfl (by rw [hml]; rfl) (argsL := [(.ref b567), (.int (0 : Int32)), (.int (2 : Int32)), (.ref b564), (.ref b565)]) (rest := []) (lenOf pd_5 rfl) rfl (by show 2 * 0 + _ ≤ _; exact Nat.le_of_eq rfl) (hb hby at_180) (fun _ _ => ⟨rfl, e684, (by decide : 8 + 0 ≤ _), (by decide : 76 + 0 ≤ _)⟩)
      dsimp only [Pt.U, Pt.locs, Pt.cells, Pt.slots] at X686 l686 y686 z686 st686 hQ686
      subst l686 y686 z686
      obtain ⟨rfl, Nq686, e686⟩ := hQ686
      have N686 := Fr.app N684 Nq686
      refine own_go (A := _) (B := T686.setTop (mkF m 183 #[.val (.int p1), .val (.int p2), .val (.int p3), .val (.int p4), .val (.int p5), .val (.int p6), .val (.int (1 : Int32)), .val (.int (1 : Int32)), .val (.ref b564), .val (.ref b565), .val (.ref b567), .val (.ref b574), .val (.int (2 : Int32))] [(.int (frm5_0_2 p2 p3 p2 p3))])) st686 ?_
      have hc183_687 : ¬ ((frm5_0_2 p2 p3 p2 p3) = (0 : Int32)) := by simp [frm5_0_2]
      refine own_go (A := T686.setTop (mkF m 183 #[.val (.int p1), .val (.int p2), .val (.int p3), .val (.int p4), .val (.int p5), .val (.int p6), .val (.int (1 : Int32)), .val (.int (1 : Int32)), .val (.ref b564), .val (.ref b565), .val (.ref b567), .val (.ref b574), .val (.int (2 : Int32))] [(.int (frm5_0_2 p2 p3 p2 p3))])) (B := T686.setTop (mkF m 195 #[.val (.int p1), .val (.int p2), .val (.int p3), .val (.int p4), .val (.int p5), .val (.int p6), .val (.int (1 : Int32)), .val (.int (1 : Int32)), .val (.ref b564), .val (.ref b565), .val (.ref b567), .val (.ref b574), .val (.int (2 : Int32))] [(.ref b565), (.ref b564), (.int (2 : Int32)), (.int (1 : Int32)), (.ref b567)])) (fun t k => ?_) ?_
      · show Steps p.tables e below (T686.setTop (mkF m 183 #[.val (.int p1), .val (.int p2), .val (.int p3), .val (.int p4), .val (.int p5), .val (.int p6), .val (.int (1 : Int32)), .val (.int (1 : Int32)), .val (.ref b564), .val (.ref b565), .val (.ref b567), .val (.ref b574), .val (.int (2 : Int32))] [(.int (frm5_0_2 p2 p3 p2 p3))])) _
        refine XS.ifNo X686.here hx rfl (hb hby at_183) rfl ((if0 _ _).trans (feq hc183_687).1) ?_
        show Steps p.tables e below (T686.setTop (mkF m 186 #[.val (.int p1), .val (.int p2), .val (.int p3), .val (.int p4), .val (.int p5), .val (.int p6), .val (.int (1 : Int32)), .val (.int (1 : Int32)), .val (.ref b564), .val (.ref b565), .val (.ref b567), .val (.ref b574), .val (.int (2 : Int32))] [])) _
        refine XS.aload X686.here hx rfl (hb hby at_186) rfl rfl ?_
        show Steps p.tables e below (T686.setTop (mkF m 188 #[.val (.int p1), .val (.int p2), .val (.int p3), .val (.int p4), .val (.int p5), .val (.int p6), .val (.int (1 : Int32)), .val (.int (1 : Int32)), .val (.ref b564), .val (.ref b565), .val (.ref b567), .val (.ref b574), .val (.int (2 : Int32))] [(.ref b567)])) _
        refine XS.iconst X686.here hx rfl (hb hby at_188) ?_
        show Steps p.tables e below (T686.setTop (mkF m 189 #[.val (.int p1), .val (.int p2), .val (.int p3), .val (.int p4), .val (.int p5), .val (.int p6), .val (.int (1 : Int32)), .val (.int (1 : Int32)), .val (.ref b564), .val (.ref b565), .val (.ref b567), .val (.ref b574), .val (.int (2 : Int32))] [(.int (1 : Int32)), (.ref b567)])) _
        refine XS.iload X686.here hx rfl (hb hby at_189) rfl ?_
        show Steps p.tables e below (T686.setTop (mkF m 191 #[.val (.int p1), .val (.int p2), .val (.int p3), .val (.int p4), .val (.int p5), .val (.int p6), .val (.int (1 : Int32)), .val (.int (1 : Int32)), .val (.ref b564), .val (.ref b565), .val (.ref b567), .val (.ref b574), .val (.int (2 : Int32))] [(.int (2 : Int32)), (.int (1 : Int32)), (.ref b567)])) _
        refine XS.aload X686.here hx rfl (hb hby at_191) rfl rfl ?_
        show Steps p.tables e below (T686.setTop (mkF m 193 #[.val (.int p1), .val (.int p2), .val (.int p3), .val (.int p4), .val (.int p5), .val (.int p6), .val (.int (1 : Int32)), .val (.int (1 : Int32)), .val (.ref b564), .val (.ref b565), .val (.ref b567), .val (.ref b574), .val (.int (2 : Int32))] [(.ref b564), (.int (2 : Int32)), (.int (1 : Int32)), (.ref b567)])) _
        refine XS.aload X686.here hx rfl (hb hby at_193) rfl rfl ?_
        exact k
      obtain ⟨_, _, ⟨T688, L688, k688, n688⟩, -, X688, ⟨Lc688, hQ688, l688, y688, z688⟩, st688⟩ := Jvm.LawKit.callS X686 hx (y := (⟨"com/example/axiomwright/axiomwright/ArcsAddAllPinLaw", "at", "(Lcom/example/axiomwright/axiomwright/Arcs;II[I[I)Z"⟩ : MethodName)) hown (mvT hZ (hw _ (List.mem_of_getElem? (i := 26) rfl))) (mvT hZ (hw _ (List.mem_of_getElem? (i := 27) rfl))) (mvT hZ (hw _ (List.mem_of_getElem? (i := 28) rfl))) (mvT hZ (hw _ (List.mem_of_getElem? (i := 29) rfl))) (by decide) (backOf (W := 0) (rm5_1_2 l Z a0 hw [] b567 b564 b565 b1_570 b2_570 k1_570 k2_570 k564 k565 p2 p4 (0 : Int32) (0 : Int32) (0 : Int32) (0 : Int32) (0 : Int32) (0 : Int32) (0 : Int32) (0 : Int32) (0 : Int32) (0 : Int32) (0 : Int32) (0 : Int32) (0 : Int32) (0 : Int32) p3 p5 (0 : Int32) (0 : Int32) (0 : Int32) (0 : Int32) (0 : Int32) (0 : Int32) (0 : Int32) (0 : Int32) (0 : Int32) (0 : Int32) (0 : Int32) (0 : Int32) (0 : Int32) (0 : Int32) p2 p4 (0 : Int32) p3 p5 (0 : Int32) T672.heap n0 Z672 Q673 U672_1 U672_2 U672_3 U672_4 Q680 Q681) hZ (hw _ (List.mem_of_getElem? (i := 29) rfl)) (hw _ (List.mem_of_getElem? (i := 28) rfl)) (by decide) (by decide)) (g := (mkF m 195 #[.val (.int p1), .val (.int p2), .val (.int p3), .val (.int p4), .val (.int p5), .val (.int p6), .val (.int (1 : Int32)), .val (.int (1 : Int32)), .val (.ref b564), .val (.ref b565), .val (.ref b567), .val (.ref b574), .val (.int (2 : Int32))] [(.ref b565), (.ref b564), (.int (2 : Int32)), (.int (1 : Int32)), (.ref b567)])) rfl (by rw [hml]; rfl) (argsL := [(.ref b567), (.int (1 : Int32)), (.int (2 : Int32)), (.ref b564), (.ref b565)]) (rest := []) (lenOf pd_5 rfl) rfl (by show 2 * 0 + _ ≤ _; exact Nat.le_of_eq rfl) (hb hby at_195) (fun _ _ => ⟨rfl, e686, (by decide : 8 + 0 ≤ _), (by decide : 76 + 0 ≤ _)⟩)
      dsimp only [Pt.U, Pt.locs, Pt.cells, Pt.slots] at X688 l688 y688 z688 st688 hQ688
      subst l688 y688 z688
      obtain ⟨rfl, Nq688, e688⟩ := hQ688
      have N688 := Fr.app N686 Nq688
      refine own_go (A := _) (B := T688.setTop (mkF m 198 #[.val (.int p1), .val (.int p2), .val (.int p3), .val (.int p4), .val (.int p5), .val (.int p6), .val (.int (1 : Int32)), .val (.int (1 : Int32)), .val (.ref b564), .val (.ref b565), .val (.ref b567), .val (.ref b574), .val (.int (2 : Int32))] [(.int (frm5_1_2 p4 p5 p4 p5))])) st688 ?_
      have hc198_689 : ¬ ((frm5_1_2 p4 p5 p4 p5) = (0 : Int32)) := by simp [frm5_1_2]
      refine own_go (A := T688.setTop (mkF m 198 #[.val (.int p1), .val (.int p2), .val (.int p3), .val (.int p4), .val (.int p5), .val (.int p6), .val (.int (1 : Int32)), .val (.int (1 : Int32)), .val (.ref b564), .val (.ref b565), .val (.ref b567), .val (.ref b574), .val (.int (2 : Int32))] [(.int (frm5_1_2 p4 p5 p4 p5))])) (B := T688.setTop (mkF m 210 #[.val (.int p1), .val (.int p2), .val (.int p3), .val (.int p4), .val (.int p5), .val (.int p6), .val (.int (1 : Int32)), .val (.int (1 : Int32)), .val (.ref b564), .val (.ref b565), .val (.ref b567), .val (.ref b574), .val (.int (2 : Int32))] [(.ref b565), (.ref b564), (.int (2 : Int32)), (.int (2 : Int32)), (.ref b567)])) (fun t k => ?_) ?_
      · show Steps p.tables e below (T688.setTop (mkF m 198 #[.val (.int p1), .val (.int p2), .val (.int p3), .val (.int p4), .val (.int p5), .val (.int p6), .val (.int (1 : Int32)), .val (.int (1 : Int32)), .val (.ref b564), .val (.ref b565), .val (.ref b567), .val (.ref b574), .val (.int (2 : Int32))] [(.int (frm5_1_2 p4 p5 p4 p5))])) _
        refine XS.ifNo X688.here hx rfl (hb hby at_198) rfl ((if0 _ _).trans (feq hc198_689).1) ?_
        show Steps p.tables e below (T688.setTop (mkF m 201 #[.val (.int p1), .val (.int p2), .val (.int p3), .val (.int p4), .val (.int p5), .val (.int p6), .val (.int (1 : Int32)), .val (.int (1 : Int32)), .val (.ref b564), .val (.ref b565), .val (.ref b567), .val (.ref b574), .val (.int (2 : Int32))] [])) _
        refine XS.aload X688.here hx rfl (hb hby at_201) rfl rfl ?_
        show Steps p.tables e below (T688.setTop (mkF m 203 #[.val (.int p1), .val (.int p2), .val (.int p3), .val (.int p4), .val (.int p5), .val (.int p6), .val (.int (1 : Int32)), .val (.int (1 : Int32)), .val (.ref b564), .val (.ref b565), .val (.ref b567), .val (.ref b574), .val (.int (2 : Int32))] [(.ref b567)])) _
        refine XS.iconst X688.here hx rfl (hb hby at_203) ?_
        show Steps p.tables e below (T688.setTop (mkF m 204 #[.val (.int p1), .val (.int p2), .val (.int p3), .val (.int p4), .val (.int p5), .val (.int p6), .val (.int (1 : Int32)), .val (.int (1 : Int32)), .val (.ref b564), .val (.ref b565), .val (.ref b567), .val (.ref b574), .val (.int (2 : Int32))] [(.int (2 : Int32)), (.ref b567)])) _
        refine XS.iload X688.here hx rfl (hb hby at_204) rfl ?_
        show Steps p.tables e below (T688.setTop (mkF m 206 #[.val (.int p1), .val (.int p2), .val (.int p3), .val (.int p4), .val (.int p5), .val (.int p6), .val (.int (1 : Int32)), .val (.int (1 : Int32)), .val (.ref b564), .val (.ref b565), .val (.ref b567), .val (.ref b574), .val (.int (2 : Int32))] [(.int (2 : Int32)), (.int (2 : Int32)), (.ref b567)])) _
        refine XS.aload X688.here hx rfl (hb hby at_206) rfl rfl ?_
        show Steps p.tables e below (T688.setTop (mkF m 208 #[.val (.int p1), .val (.int p2), .val (.int p3), .val (.int p4), .val (.int p5), .val (.int p6), .val (.int (1 : Int32)), .val (.int (1 : Int32)), .val (.ref b564), .val (.ref b565), .val (.ref b567), .val (.ref b574), .val (.int (2 : Int32))] [(.ref b564), (.int (2 : Int32)), (.int (2 : Int32)), (.ref b567)])) _
        refine XS.aload X688.here hx rfl (hb hby at_208) rfl rfl ?_
        exact k
      obtain ⟨_, _, ⟨T690, L690, k690, n690⟩, -, X690, ⟨Lc690, hQ690, l690, y690, z690⟩, st690⟩ := Jvm.LawKit.callS X688 hx (y := (⟨"com/example/axiomwright/axiomwright/ArcsAddAllPinLaw", "at", "(Lcom/example/axiomwright/axiomwright/Arcs;II[I[I)Z"⟩ : MethodName)) hown (mvT hZ (hw _ (List.mem_of_getElem? (i := 26) rfl))) (mvT hZ (hw _ (List.mem_of_getElem? (i := 27) rfl))) (mvT hZ (hw _ (List.mem_of_getElem? (i := 28) rfl))) (mvT hZ (hw _ (List.mem_of_getElem? (i := 29) rfl))) (by decide) (backOf (W := 0) (rm5_2_2 l Z a0 hw [] b567 b564 b565 T672.heap n0 Z672 ) hZ (hw _ (List.mem_of_getElem? (i := 29) rfl)) (hw _ (List.mem_of_getElem? (i := 28) rfl)) (by decide) (by decide)) (g := (mkF m 210 #[.val (.int p1), .val (.int p2), .val (.int p3), .val (.int p4), .val (.int p5), .val (.int p6), .val (.int (1 : Int32)), .val (.int (1 : Int32)), .val (.ref b564), .val (.ref b565), .val (.ref b567), .val (.ref b574), .val (.int (2 : Int32))] [(.ref b565), (.ref b564), (.int (2 : Int32)), (.int (2 : Int32)), (.ref b567)])) rfl (by rw [hml]; rfl) (argsL := [(.ref b567), (.int (2 : Int32)), (.int (2 : Int32)), (.ref b564), (.ref b565)]) (rest := []) (lenOf pd_5 rfl) rfl (by show 2 * 0 + _ ≤ _; exact Nat.le_of_eq rfl) (hb hby at_210) (fun _ _ => ⟨rfl, e688, (by decide : 8 + 0 ≤ _), (by decide : 76 + 0 ≤ _)⟩)
      dsimp only [Pt.U, Pt.locs, Pt.cells, Pt.slots] at X690 l690 y690 z690 st690 hQ690
      subst l690 y690 z690
      obtain ⟨rfl, Nq690, e690⟩ := hQ690
      have N690 := Fr.app N688 Nq690
      refine own_go (A := _) (B := T690.setTop (mkF m 213 #[.val (.int p1), .val (.int p2), .val (.int p3), .val (.int p4), .val (.int p5), .val (.int p6), .val (.int (1 : Int32)), .val (.int (1 : Int32)), .val (.ref b564), .val (.ref b565), .val (.ref b567), .val (.ref b574), .val (.int (2 : Int32))] [(.int (1 : Int32))])) st690 ?_
      refine own_go (A := T690.setTop (mkF m 213 #[.val (.int p1), .val (.int p2), .val (.int p3), .val (.int p4), .val (.int p5), .val (.int p6), .val (.int (1 : Int32)), .val (.int (1 : Int32)), .val (.ref b564), .val (.ref b565), .val (.ref b567), .val (.ref b574), .val (.int (2 : Int32))] [(.int (1 : Int32))])) (B := T690.setTop (mkF m 221 #[.val (.int p1), .val (.int p2), .val (.int p3), .val (.int p4), .val (.int p5), .val (.int p6), .val (.int (1 : Int32)), .val (.int (1 : Int32)), .val (.ref b564), .val (.ref b565), .val (.ref b567), .val (.ref b574), .val (.int (2 : Int32))] [(.int (1 : Int32))])) (fun t k => ?_) ?_
      · show Steps p.tables e below (T690.setTop (mkF m 213 #[.val (.int p1), .val (.int p2), .val (.int p3), .val (.int p4), .val (.int p5), .val (.int p6), .val (.int (1 : Int32)), .val (.int (1 : Int32)), .val (.ref b564), .val (.ref b565), .val (.ref b567), .val (.ref b574), .val (.int (2 : Int32))] [(.int (1 : Int32))])) _
        refine XS.ifNo X690.here hx rfl (hb hby at_213) rfl ((if0 _ _).trans (feq (by decide : ¬ ((1 : Int32) = (0 : Int32)))).1) ?_
        show Steps p.tables e below (T690.setTop (mkF m 216 #[.val (.int p1), .val (.int p2), .val (.int p3), .val (.int p4), .val (.int p5), .val (.int p6), .val (.int (1 : Int32)), .val (.int (1 : Int32)), .val (.ref b564), .val (.ref b565), .val (.ref b567), .val (.ref b574), .val (.int (2 : Int32))] [])) _
        refine XS.iconst X690.here hx rfl (hb hby at_216) ?_
        show Steps p.tables e below (T690.setTop (mkF m 217 #[.val (.int p1), .val (.int p2), .val (.int p3), .val (.int p4), .val (.int p5), .val (.int p6), .val (.int (1 : Int32)), .val (.int (1 : Int32)), .val (.ref b564), .val (.ref b565), .val (.ref b567), .val (.ref b574), .val (.int (2 : Int32))] [(.int (1 : Int32))])) _
        refine XS.goto X690.here hx rfl (pc0 := 217) (pc' := 221) rfl (hb hby at_217) (by decide) (by decide) ?_
        exact k
      obtain ⟨fs, hr, hrun, hended, hW, hsame⟩ := X690.leave (v := some (.int (1 : Int32))) (fun h => by rw [Bd.returns] at h; cases h)
      refine ⟨_, _, ?_, hrun, hended, _, _, rfl, ?_, ⟨_, rfl⟩, hW, hsame.mono (by decide) (by decide)⟩
      · show Steps p.tables e below (T690.setTop (mkF m 221 #[.val (.int p1), .val (.int p2), .val (.int p3), .val (.int p4), .val (.int p5), .val (.int p6), .val (.int (1 : Int32)), .val (.int (1 : Int32)), .val (.ref b564), .val (.ref b565), .val (.ref b567), .val (.ref b574), .val (.int (2 : Int32))] [(.int (1 : Int32))])) _
        exact retN X690 hx (t := .boolean) Bd.returns (by simp) (hb hby at_221) hr
      · show Qrm0 Z p1 p2 p3 p4 p5 p6 h0 n0 _ T690.heap _
        rw [e690]
        exact ⟨rfl, N690⟩
    · rw [hk473]
      refine own_go (A := s₁.setTop (mkF m 20 #[.val (.int p1), .val (.int p2), .val (.int p3), .val (.int p4), .val (.int p5), .val (.int p6), .val (.int (1 : Int32)), .unset, .unset, .unset, .unset, .unset, .unset] [(.int (2 : Int32))])) (B := s₁.setTop (mkF m 23 #[.val (.int p1), .val (.int p2), .val (.int p3), .val (.int p4), .val (.int p5), .val (.int p6), .val (.int (1 : Int32)), .val (.int (2 : Int32)), .unset, .unset, .unset, .unset, .unset] [(.int (3 : Int32))])) (fun t k => ?_) ?_
      · show Steps p.tables e below (s₁.setTop (mkF m 20 #[.val (.int p1), .val (.int p2), .val (.int p3), .val (.int p4), .val (.int p5), .val (.int p6), .val (.int (1 : Int32)), .unset, .unset, .unset, .unset, .unset, .unset] [(.int (2 : Int32))])) _
        refine XS.istore X0.here hx rfl (hb hby at_20) rfl (l' := #[.val (.int p1), .val (.int p2), .val (.int p3), .val (.int p4), .val (.int p5), .val (.int p6), .val (.int (1 : Int32)), .val (.int (2 : Int32)), .unset, .unset, .unset, .unset, .unset]) rfl ?_
        show Steps p.tables e below (s₁.setTop (mkF m 22 #[.val (.int p1), .val (.int p2), .val (.int p3), .val (.int p4), .val (.int p5), .val (.int p6), .val (.int (1 : Int32)), .val (.int (2 : Int32)), .unset, .unset, .unset, .unset, .unset] [])) _
        refine XS.iconst X0.here hx rfl (hb hby at_22) ?_
        exact k
      obtain ⟨T692, h692, k692, X692, e692, E692, A692, st692⟩ := newP X0 hx hZ (hw _ (List.mem_of_getElem? (i := 0) rfl)) e0 (g := (mkF m 23 #[.val (.int p1), .val (.int p2), .val (.int p3), .val (.int p4), .val (.int p5), .val (.int p6), .val (.int (1 : Int32)), .val (.int (2 : Int32)), .unset, .unset, .unset, .unset, .unset] [(.int (3 : Int32))])) rfl (hb hby at_23) rfl (by decide) (cap := 3) (by decide) (by decide) (by decide) (by decide)
      obtain ⟨b692, g692⟩ : ∃ z, z = h0.size := ⟨_, rfl⟩
      rw [← g692] at A692 st692
      have low692 : n0 ≤ b692 := Nat.le_trans Z0 (Nat.le_of_eq g692.symm)
      have sz692 : h0.size ≤ b692 := Nat.le_trans K0.1 (Nat.le_of_eq g692.symm)
      have Z692 : n0 ≤ h692.size := Nat.le_trans Z0 E692.1
      have K692 := K0.ext E692
      have V692 : Arv Z h692 b692 k692 .int (3 : Int32) [(.int (0 : Int32)), (.int (0 : Int32)), (.int (0 : Int32))] (.int (0 : Int32)) := (Arv.new A692 (by decide)).pad (pad_rep [] (.int (0 : Int32)) 3)
      refine own_go st692 ?_
      refine own_go (A := T692.setTop (mkF m 25 #[.val (.int p1), .val (.int p2), .val (.int p3), .val (.int p4), .val (.int p5), .val (.int p6), .val (.int (1 : Int32)), .val (.int (2 : Int32)), .unset, .unset, .unset, .unset, .unset] [(.ref b692)])) (B := T692.setTop (mkF m 28 #[.val (.int p1), .val (.int p2), .val (.int p3), .val (.int p4), .val (.int p5), .val (.int p6), .val (.int (1 : Int32)), .val (.int (2 : Int32)), .val (.ref b692), .unset, .unset, .unset, .unset] [(.int (3 : Int32))])) (fun t k => ?_) ?_
      · show Steps p.tables e below (T692.setTop (mkF m 25 #[.val (.int p1), .val (.int p2), .val (.int p3), .val (.int p4), .val (.int p5), .val (.int p6), .val (.int (1 : Int32)), .val (.int (2 : Int32)), .unset, .unset, .unset, .unset, .unset] [(.ref b692)])) _
        refine XS.astore X692.here hx rfl (hb hby at_25) rfl rfl (l' := #[.val (.int p1), .val (.int p2), .val (.int p3), .val (.int p4), .val (.int p5), .val (.int p6), .val (.int (1 : Int32)), .val (.int (2 : Int32)), .val (.ref b692), .unset, .unset, .unset, .unset]) rfl ?_
        show Steps p.tables e below (T692.setTop (mkF m 27 #[.val (.int p1), .val (.int p2), .val (.int p3), .val (.int p4), .val (.int p5), .val (.int p6), .val (.int (1 : Int32)), .val (.int (2 : Int32)), .val (.ref b692), .unset, .unset, .unset, .unset] [])) _
        refine XS.iconst X692.here hx rfl (hb hby at_27) ?_
        exact k
      obtain ⟨T693, h693, k693, X693, e693, E693, A693, st693⟩ := newP X692 hx hZ (hw _ (List.mem_of_getElem? (i := 0) rfl)) e692 (g := (mkF m 28 #[.val (.int p1), .val (.int p2), .val (.int p3), .val (.int p4), .val (.int p5), .val (.int p6), .val (.int (1 : Int32)), .val (.int (2 : Int32)), .val (.ref b692), .unset, .unset, .unset, .unset] [(.int (3 : Int32))])) rfl (hb hby at_28) rfl (by decide) (cap := 3) (by decide) (by decide) (by decide) (by decide)
      obtain ⟨b693, g693⟩ : ∃ z, z = h692.size := ⟨_, rfl⟩
      rw [← g693] at A693 st693
      have ne693_b692 : b692 ≠ b693 := Nat.ne_of_lt (Nat.lt_of_lt_of_le V692.lt (Nat.le_of_eq g693.symm))
      have low693 : n0 ≤ b693 := Nat.le_trans Z692 (Nat.le_of_eq g693.symm)
      have sz693 : h0.size ≤ b693 := Nat.le_trans K692.1 (Nat.le_of_eq g693.symm)
      have Q694 : Arv Z h693 b692 k692 .int (3 : Int32) [(.int (0 : Int32)), (.int (0 : Int32)), (.int (0 : Int32))] (.int (0 : Int32)) := V692.ext E693
      have Z693 : n0 ≤ h693.size := Nat.le_trans Z692 E693.1
      have K693 := K692.ext E693
      have V693 : Arv Z h693 b693 k693 .int (3 : Int32) [(.int (0 : Int32)), (.int (0 : Int32)), (.int (0 : Int32))] (.int (0 : Int32)) := (Arv.new A693 (by decide)).pad (pad_rep [] (.int (0 : Int32)) 3)
      refine own_go st693 ?_
      refine own_go (A := T693.setTop (mkF m 30 #[.val (.int p1), .val (.int p2), .val (.int p3), .val (.int p4), .val (.int p5), .val (.int p6), .val (.int (1 : Int32)), .val (.int (2 : Int32)), .val (.ref b692), .unset, .unset, .unset, .unset] [(.ref b693)])) (B := T693.setTop (mkF m 32 #[.val (.int p1), .val (.int p2), .val (.int p3), .val (.int p4), .val (.int p5), .val (.int p6), .val (.int (1 : Int32)), .val (.int (2 : Int32)), .val (.ref b692), .val (.ref b693), .unset, .unset, .unset] [])) (fun t k => ?_) ?_
      · show Steps p.tables e below (T693.setTop (mkF m 30 #[.val (.int p1), .val (.int p2), .val (.int p3), .val (.int p4), .val (.int p5), .val (.int p6), .val (.int (1 : Int32)), .val (.int (2 : Int32)), .val (.ref b692), .unset, .unset, .unset, .unset] [(.ref b693)])) _
        refine XS.astore X693.here hx rfl (hb hby at_30) rfl rfl (l' := #[.val (.int p1), .val (.int p2), .val (.int p3), .val (.int p4), .val (.int p5), .val (.int p6), .val (.int (1 : Int32)), .val (.int (2 : Int32)), .val (.ref b692), .val (.ref b693), .unset, .unset, .unset]) rfl ?_
        exact k
      obtain ⟨T695, h695, X695, e695, E695, A695, D695, -, st695⟩ := newO X693 hx hZ hown (hw _ (List.mem_of_getElem? (i := 1) rfl)) (hw _ (List.mem_of_getElem? (i := 2) rfl)) (hw _ (List.mem_of_getElem? (i := 3) rfl)) e693 (g := (mkF m 32 #[.val (.int p1), .val (.int p2), .val (.int p3), .val (.int p4), .val (.int p5), .val (.int p6), .val (.int (1 : Int32)), .val (.int (2 : Int32)), .val (.ref b692), .val (.ref b693), .unset, .unset, .unset] [])) rfl (hb hby at_32) (by decide) (by decide)
      obtain ⟨b695, g695⟩ : ∃ z, z = h693.size := ⟨_, rfl⟩
      rw [← g695] at A695 D695 st695
      have ne695_b692 : b692 ≠ b695 := Nat.ne_of_lt (Nat.lt_of_lt_of_le Q694.lt (Nat.le_of_eq g695.symm))
      have ne695_b693 : b693 ≠ b695 := Nat.ne_of_lt (Nat.lt_of_lt_of_le V693.lt (Nat.le_of_eq g695.symm))
      have low695 : n0 ≤ b695 := Nat.le_trans Z693 (Nat.le_of_eq g695.symm)
      have sz695 : h0.size ≤ b695 := Nat.le_trans K693.1 (Nat.le_of_eq g695.symm)
      have Q696 : Arv Z h695 b692 k692 .int (3 : Int32) [(.int (0 : Int32)), (.int (0 : Int32)), (.int (0 : Int32))] (.int (0 : Int32)) := Q694.ext E695
      have Q697 : Arv Z h695 b693 k693 .int (3 : Int32) [(.int (0 : Int32)), (.int (0 : Int32)), (.int (0 : Int32))] (.int (0 : Int32)) := V693.ext E695
      have Z695 : n0 ≤ h695.size := Nat.le_trans Z693 E695.1
      have K695 := K693.ext E695
      have D695_from_Arcs : Fld Z h695 b695 "com/example/axiomwright/axiomwright/Arcs" "from" "[I" .null := D695 (Or.inl (hw _ (List.mem_of_getElem? (i := 11) rfl))) (ty := (.array .int)) (by decide)
      have D695_to_Arcs : Fld Z h695 b695 "com/example/axiomwright/axiomwright/Arcs" "to" "[I" .null := D695 (Or.inl (hw _ (List.mem_of_getElem? (i := 13) rfl))) (ty := (.array .int)) (by decide)
      have D695_size_Arcs : Fld Z h695 b695 "com/example/axiomwright/axiomwright/Arcs" "size" "I" (.int (0 : Int32)) := D695 (Or.inl (hw _ (List.mem_of_getElem? (i := 20) rfl))) (ty := .int) (by decide)
      refine own_go st695 ?_
      refine own_go (A := T695.setTop (mkF m 35 #[.val (.int p1), .val (.int p2), .val (.int p3), .val (.int p4), .val (.int p5), .val (.int p6), .val (.int (1 : Int32)), .val (.int (2 : Int32)), .val (.ref b692), .val (.ref b693), .unset, .unset, .unset] [(.ref b695)])) (B := T695.setTop (mkF m 36 #[.val (.int p1), .val (.int p2), .val (.int p3), .val (.int p4), .val (.int p5), .val (.int p6), .val (.int (1 : Int32)), .val (.int (2 : Int32)), .val (.ref b692), .val (.ref b693), .unset, .unset, .unset] [(.ref b695), (.ref b695)])) (fun t k => ?_) ?_
      · show Steps p.tables e below (T695.setTop (mkF m 35 #[.val (.int p1), .val (.int p2), .val (.int p3), .val (.int p4), .val (.int p5), .val (.int p6), .val (.int (1 : Int32)), .val (.int (2 : Int32)), .val (.ref b692), .val (.ref b693), .unset, .unset, .unset] [(.ref b695)])) _
        refine XS.dup X695.here hx rfl (hb hby at_35) rfl rfl ?_
        exact k
      obtain ⟨_, _, ⟨T698, L698, k698, n698⟩, -, X698, ⟨Lc698, hQ698, l698, y698, z698⟩, st698⟩ := X695.specialBack hx (y := (⟨"com/example/axiomwright/axiomwright/Arcs", "<init>", "()V"⟩ : MethodName)) rfl hown (mvT hZ (hw _ (List.mem_of_getElem? (i := 4) rfl))) (mvT hZ (hw _ (List.mem_of_getElem? (i := 5) rfl))) (mvT hZ (hw _ (List.mem_of_getElem? (i := 6) rfl))) (by decide) (backOf (W := 1) (rm1 l Z a0 hw [] b695 h695 n0 Z695 A695 D695_from_Arcs D695_to_Arcs D695_size_Arcs low695) hZ (hw _ (List.mem_of_getElem? (i := 6) rfl)) (hw _ (List.mem_of_getElem? (i := 3) rfl)) (by decide) (by decide)) (g := (mkF m 36 #[.val (.int p1), .val (.int p2), .val (.int p3), .val (.int p4), .val (.int p5), .val (.int p6), .val (.int (1 : Int32)), .val (.int (2 : Int32)), .val (.ref b692), .val (.ref b693), .unset, .unset, .unset] [(.ref b695), (.ref b695)])) rfl (by rw [hml]; rfl) (Steps.refl _) (a := b695) (argsL := []) (rest := [(.ref b695)]) (lenOf pd_2 rfl) rfl (by show 2 * 0 + _ ≤ _; exact Nat.le_of_eq rfl) (hb hby at_36) (fun _ _ => ⟨rfl, e695, (by decide : 3 + 2 ≤ _), (by decide : 9 + 32 ≤ _)⟩)
      dsimp only [Pt.U, Pt.locs, Pt.cells, Pt.slots] at X698 l698 y698 z698 st698 hQ698
      subst l698 y698 z698
      obtain ⟨b1_698, b2_698, k1_698, k2_698, rfl, Nq698, Kq698, sq_b1_698, sq_b2_698, pq698_0, U698_0, U698_1, U698_2, U698_3, U698_4⟩ := hQ698
      have ne_b692_b1_698 : b692 ≠ b1_698 := Nat.ne_of_lt (Nat.lt_of_lt_of_le Q696.lt sq_b1_698)
      have ne_b693_b1_698 : b693 ≠ b1_698 := Nat.ne_of_lt (Nat.lt_of_lt_of_le Q697.lt sq_b1_698)
      have ne_b695_b1_698 : b695 ≠ b1_698 := Nat.ne_of_lt (Nat.lt_of_lt_of_le A695.lt sq_b1_698)
      have low_b1_698 : n0 ≤ b1_698 := Nat.le_trans Z695 sq_b1_698
      have sz_b1_698 : h0.size ≤ b1_698 := Nat.le_trans K695.1 sq_b1_698
      have ne_b692_b2_698 : b692 ≠ b2_698 := Nat.ne_of_lt (Nat.lt_of_lt_of_le Q696.lt sq_b2_698)
      have ne_b693_b2_698 : b693 ≠ b2_698 := Nat.ne_of_lt (Nat.lt_of_lt_of_le Q697.lt sq_b2_698)
      have ne_b695_b2_698 : b695 ≠ b2_698 := Nat.ne_of_lt (Nat.lt_of_lt_of_le A695.lt sq_b2_698)
      have low_b2_698 : n0 ≤ b2_698 := Nat.le_trans Z695 sq_b2_698
      have sz_b2_698 : h0.size ≤ b2_698 := Nat.le_trans K695.1 sq_b2_698
      have Q699 : Arv Z T698.heap b692 k692 .int (3 : Int32) [(.int (0 : Int32)), (.int (0 : Int32)), (.int (0 : Int32))] (.int (0 : Int32)) := Q696.keep Kq698 (ninS ne695_b692 nin0)
      have Q700 : Arv Z T698.heap b693 k693 .int (3 : Int32) [(.int (0 : Int32)), (.int (0 : Int32)), (.int (0 : Int32))] (.int (0 : Int32)) := Q697.keep Kq698 (ninS ne695_b693 nin0)
      have Q701 : Exa Z T698.heap b695 "com/example/axiomwright/axiomwright/Arcs" := A695.keep Kq698
      have Z698 : n0 ≤ T698.heap.size := Nat.le_trans Z695 Kq698.1
      have K698 : Keep h0 T698.heap [] := K695.trans Kq698 (allS (Or.inr sz695) all0)
      have N698 := Fr.app N0 Nq698
      refine own_go (A := _) (B := T698.setTop (mkF m 39 #[.val (.int p1), .val (.int p2), .val (.int p3), .val (.int p4), .val (.int p5), .val (.int p6), .val (.int (1 : Int32)), .val (.int (2 : Int32)), .val (.ref b692), .val (.ref b693), .unset, .unset, .unset] [(.ref b695)])) (fun t k => st698.trans k) ?_
      refine own_go (A := T698.setTop (mkF m 39 #[.val (.int p1), .val (.int p2), .val (.int p3), .val (.int p4), .val (.int p5), .val (.int p6), .val (.int (1 : Int32)), .val (.int (2 : Int32)), .val (.ref b692), .val (.ref b693), .unset, .unset, .unset] [(.ref b695)])) (B := T698.setTop (mkF m 41 #[.val (.int p1), .val (.int p2), .val (.int p3), .val (.int p4), .val (.int p5), .val (.int p6), .val (.int (1 : Int32)), .val (.int (2 : Int32)), .val (.ref b692), .val (.ref b693), .val (.ref b695), .unset, .unset] [])) (fun t k => ?_) ?_
      · show Steps p.tables e below (T698.setTop (mkF m 39 #[.val (.int p1), .val (.int p2), .val (.int p3), .val (.int p4), .val (.int p5), .val (.int p6), .val (.int (1 : Int32)), .val (.int (2 : Int32)), .val (.ref b692), .val (.ref b693), .unset, .unset, .unset] [(.ref b695)])) _
        refine XS.astore X698.here hx rfl (hb hby at_39) rfl rfl (l' := #[.val (.int p1), .val (.int p2), .val (.int p3), .val (.int p4), .val (.int p5), .val (.int p6), .val (.int (1 : Int32)), .val (.int (2 : Int32)), .val (.ref b692), .val (.ref b693), .val (.ref b695), .unset, .unset]) rfl ?_
        exact k
      obtain ⟨T702, h702, X702, e702, E702, A702, D702, -, st702⟩ := newO X698 hx hZ hown (hw _ (List.mem_of_getElem? (i := 1) rfl)) (hw _ (List.mem_of_getElem? (i := 2) rfl)) (hw _ (List.mem_of_getElem? (i := 3) rfl)) rfl (g := (mkF m 41 #[.val (.int p1), .val (.int p2), .val (.int p3), .val (.int p4), .val (.int p5), .val (.int p6), .val (.int (1 : Int32)), .val (.int (2 : Int32)), .val (.ref b692), .val (.ref b693), .val (.ref b695), .unset, .unset] [])) rfl (hb hby at_41) (by decide) (by decide)
      obtain ⟨b702, g702⟩ : ∃ z, z = T698.heap.size := ⟨_, rfl⟩
      rw [← g702] at A702 D702 st702
      have ne702_b1_698 : b1_698 ≠ b702 := Nat.ne_of_lt (Nat.lt_of_lt_of_le U698_3.lt (Nat.le_of_eq g702.symm))
      have ne702_b2_698 : b2_698 ≠ b702 := Nat.ne_of_lt (Nat.lt_of_lt_of_le U698_4.lt (Nat.le_of_eq g702.symm))
      have ne702_b692 : b692 ≠ b702 := Nat.ne_of_lt (Nat.lt_of_lt_of_le Q699.lt (Nat.le_of_eq g702.symm))
      have ne702_b693 : b693 ≠ b702 := Nat.ne_of_lt (Nat.lt_of_lt_of_le Q700.lt (Nat.le_of_eq g702.symm))
      have ne702_b695 : b695 ≠ b702 := Nat.ne_of_lt (Nat.lt_of_lt_of_le Q701.lt (Nat.le_of_eq g702.symm))
      have low702 : n0 ≤ b702 := Nat.le_trans Z698 (Nat.le_of_eq g702.symm)
      have sz702 : h0.size ≤ b702 := Nat.le_trans K698.1 (Nat.le_of_eq g702.symm)
      have Q703 : Arv Z h702 b692 k692 .int (3 : Int32) [(.int (0 : Int32)), (.int (0 : Int32)), (.int (0 : Int32))] (.int (0 : Int32)) := Q699.ext E702
      have Q704 : Arv Z h702 b693 k693 .int (3 : Int32) [(.int (0 : Int32)), (.int (0 : Int32)), (.int (0 : Int32))] (.int (0 : Int32)) := Q700.ext E702
      have Q705 : Exa Z h702 b695 "com/example/axiomwright/axiomwright/Arcs" := Q701.ext E702
      have Q706 : Fld Z h702 b695 "com/example/axiomwright/axiomwright/Arcs" "from" "[I" (.ref b1_698) := U698_0.ext E702
      have Q707 : Fld Z h702 b695 "com/example/axiomwright/axiomwright/Arcs" "to" "[I" (.ref b2_698) := U698_1.ext E702
      have Q708 : Fld Z h702 b695 "com/example/axiomwright/axiomwright/Arcs" "size" "I" (.int (0 : Int32)) := U698_2.ext E702
      have Q709 : Arv Z h702 b1_698 k1_698 .int (16 : Int32) [(.int (0 : Int32)), (.int (0 : Int32)), (.int (0 : Int32)), (.int (0 : Int32)), (.int (0 : Int32)), (.int (0 : Int32)), (.int (0 : Int32)), (.int (0 : Int32)), (.int (0 : Int32)), (.int (0 : Int32)), (.int (0 : Int32)), (.int (0 : Int32)), (.int (0 : Int32)), (.int (0 : Int32)), (.int (0 : Int32)), (.int (0 : Int32))] (.int (0 : Int32)) := U698_3.ext E702
      have Q710 : Arv Z h702 b2_698 k2_698 .int (16 : Int32) [(.int (0 : Int32)), (.int (0 : Int32)), (.int (0 : Int32)), (.int (0 : Int32)), (.int (0 : Int32)), (.int (0 : Int32)), (.int (0 : Int32)), (.int (0 : Int32)), (.int (0 : Int32)), (.int (0 : Int32)), (.int (0 : Int32)), (.int (0 : Int32)), (.int (0 : Int32)), (.int (0 : Int32)), (.int (0 : Int32)), (.int (0 : Int32))] (.int (0 : Int32)) := U698_4.ext E702
      have Z702 : n0 ≤ h702.size := Nat.le_trans Z698 E702.1
      have K702 := K698.ext E702
      have D702_from_Arcs : Fld Z h702 b702 "com/example/axiomwright/axiomwright/Arcs" "from" "[I" .null := D702 (Or.inl (hw _ (List.mem_of_getElem? (i := 11) rfl))) (ty := (.array .int)) (by decide)
      have D702_to_Arcs : Fld Z h702 b702 "com/example/axiomwright/axiomwright/Arcs" "to" "[I" .null := D702 (Or.inl (hw _ (List.mem_of_getElem? (i := 13) rfl))) (ty := (.array .int)) (by decide)
      have D702_size_Arcs : Fld Z h702 b702 "com/example/axiomwright/axiomwright/Arcs" "size" "I" (.int (0 : Int32)) := D702 (Or.inl (hw _ (List.mem_of_getElem? (i := 20) rfl))) (ty := .int) (by decide)
      refine own_go st702 ?_
      refine own_go (A := T702.setTop (mkF m 44 #[.val (.int p1), .val (.int p2), .val (.int p3), .val (.int p4), .val (.int p5), .val (.int p6), .val (.int (1 : Int32)), .val (.int (2 : Int32)), .val (.ref b692), .val (.ref b693), .val (.ref b695), .unset, .unset] [(.ref b702)])) (B := T702.setTop (mkF m 45 #[.val (.int p1), .val (.int p2), .val (.int p3), .val (.int p4), .val (.int p5), .val (.int p6), .val (.int (1 : Int32)), .val (.int (2 : Int32)), .val (.ref b692), .val (.ref b693), .val (.ref b695), .unset, .unset] [(.ref b702), (.ref b702)])) (fun t k => ?_) ?_
      · show Steps p.tables e below (T702.setTop (mkF m 44 #[.val (.int p1), .val (.int p2), .val (.int p3), .val (.int p4), .val (.int p5), .val (.int p6), .val (.int (1 : Int32)), .val (.int (2 : Int32)), .val (.ref b692), .val (.ref b693), .val (.ref b695), .unset, .unset] [(.ref b702)])) _
        refine XS.dup X702.here hx rfl (hb hby at_44) rfl rfl ?_
        exact k
      obtain ⟨_, _, ⟨T711, L711, k711, n711⟩, -, X711, ⟨Lc711, hQ711, l711, y711, z711⟩, st711⟩ := X702.specialBack hx (y := (⟨"com/example/axiomwright/axiomwright/Arcs", "<init>", "()V"⟩ : MethodName)) rfl hown (mvT hZ (hw _ (List.mem_of_getElem? (i := 4) rfl))) (mvT hZ (hw _ (List.mem_of_getElem? (i := 5) rfl))) (mvT hZ (hw _ (List.mem_of_getElem? (i := 6) rfl))) (by decide) (backOf (W := 1) (rm1 l Z a0 hw [] b702 h702 n0 Z702 A702 D702_from_Arcs D702_to_Arcs D702_size_Arcs low702) hZ (hw _ (List.mem_of_getElem? (i := 6) rfl)) (hw _ (List.mem_of_getElem? (i := 3) rfl)) (by decide) (by decide)) (g := (mkF m 45 #[.val (.int p1), .val (.int p2), .val (.int p3), .val (.int p4), .val (.int p5), .val (.int p6), .val (.int (1 : Int32)), .val (.int (2 : Int32)), .val (.ref b692), .val (.ref b693), .val (.ref b695), .unset, .unset] [(.ref b702), (.ref b702)])) rfl (by rw [hml]; rfl) (Steps.refl _) (a := b702) (argsL := []) (rest := [(.ref b702)]) (lenOf pd_2 rfl) rfl (by show 2 * 0 + _ ≤ _; exact Nat.le_of_eq rfl) (hb hby at_45) (fun _ _ => ⟨rfl, e702, (by decide : 6 + 2 ≤ _), (by decide : 44 + 32 ≤ _)⟩)
      dsimp only [Pt.U, Pt.locs, Pt.cells, Pt.slots] at X711 l711 y711 z711 st711 hQ711
      subst l711 y711 z711
      obtain ⟨b1_711, b2_711, k1_711, k2_711, rfl, Nq711, Kq711, sq_b1_711, sq_b2_711, pq711_0, U711_0, U711_1, U711_2, U711_3, U711_4⟩ := hQ711
      have ne_b1_698_b1_711 : b1_698 ≠ b1_711 := Nat.ne_of_lt (Nat.lt_of_lt_of_le Q709.lt sq_b1_711)
      have ne_b2_698_b1_711 : b2_698 ≠ b1_711 := Nat.ne_of_lt (Nat.lt_of_lt_of_le Q710.lt sq_b1_711)
      have ne_b692_b1_711 : b692 ≠ b1_711 := Nat.ne_of_lt (Nat.lt_of_lt_of_le Q703.lt sq_b1_711)
      have ne_b693_b1_711 : b693 ≠ b1_711 := Nat.ne_of_lt (Nat.lt_of_lt_of_le Q704.lt sq_b1_711)
      have ne_b695_b1_711 : b695 ≠ b1_711 := Nat.ne_of_lt (Nat.lt_of_lt_of_le Q705.lt sq_b1_711)
      have ne_b702_b1_711 : b702 ≠ b1_711 := Nat.ne_of_lt (Nat.lt_of_lt_of_le A702.lt sq_b1_711)
      have low_b1_711 : n0 ≤ b1_711 := Nat.le_trans Z702 sq_b1_711
      have sz_b1_711 : h0.size ≤ b1_711 := Nat.le_trans K702.1 sq_b1_711
      have ne_b1_698_b2_711 : b1_698 ≠ b2_711 := Nat.ne_of_lt (Nat.lt_of_lt_of_le Q709.lt sq_b2_711)
      have ne_b2_698_b2_711 : b2_698 ≠ b2_711 := Nat.ne_of_lt (Nat.lt_of_lt_of_le Q710.lt sq_b2_711)
      have ne_b692_b2_711 : b692 ≠ b2_711 := Nat.ne_of_lt (Nat.lt_of_lt_of_le Q703.lt sq_b2_711)
      have ne_b693_b2_711 : b693 ≠ b2_711 := Nat.ne_of_lt (Nat.lt_of_lt_of_le Q704.lt sq_b2_711)
      have ne_b695_b2_711 : b695 ≠ b2_711 := Nat.ne_of_lt (Nat.lt_of_lt_of_le Q705.lt sq_b2_711)
      have ne_b702_b2_711 : b702 ≠ b2_711 := Nat.ne_of_lt (Nat.lt_of_lt_of_le A702.lt sq_b2_711)
      have low_b2_711 : n0 ≤ b2_711 := Nat.le_trans Z702 sq_b2_711
      have sz_b2_711 : h0.size ≤ b2_711 := Nat.le_trans K702.1 sq_b2_711
      have Q712 : Arv Z T711.heap b692 k692 .int (3 : Int32) [(.int (0 : Int32)), (.int (0 : Int32)), (.int (0 : Int32))] (.int (0 : Int32)) := Q703.keep Kq711 (ninS ne702_b692 nin0)
      have Q713 : Arv Z T711.heap b693 k693 .int (3 : Int32) [(.int (0 : Int32)), (.int (0 : Int32)), (.int (0 : Int32))] (.int (0 : Int32)) := Q704.keep Kq711 (ninS ne702_b693 nin0)
      have Q714 : Exa Z T711.heap b695 "com/example/axiomwright/axiomwright/Arcs" := Q705.keep Kq711
      have Q715 : Fld Z T711.heap b695 "com/example/axiomwright/axiomwright/Arcs" "from" "[I" (.ref b1_698) := Q706.keep Kq711 (ninS ne702_b695 nin0)
      have Q716 : Fld Z T711.heap b695 "com/example/axiomwright/axiomwright/Arcs" "to" "[I" (.ref b2_698) := Q707.keep Kq711 (ninS ne702_b695 nin0)
      have Q717 : Fld Z T711.heap b695 "com/example/axiomwright/axiomwright/Arcs" "size" "I" (.int (0 : Int32)) := Q708.keep Kq711 (ninS ne702_b695 nin0)
      have Q718 : Arv Z T711.heap b1_698 k1_698 .int (16 : Int32) [(.int (0 : Int32)), (.int (0 : Int32)), (.int (0 : Int32)), (.int (0 : Int32)), (.int (0 : Int32)), (.int (0 : Int32)), (.int (0 : Int32)), (.int (0 : Int32)), (.int (0 : Int32)), (.int (0 : Int32)), (.int (0 : Int32)), (.int (0 : Int32)), (.int (0 : Int32)), (.int (0 : Int32)), (.int (0 : Int32)), (.int (0 : Int32))] (.int (0 : Int32)) := Q709.keep Kq711 (ninS ne702_b1_698 nin0)
      have Q719 : Arv Z T711.heap b2_698 k2_698 .int (16 : Int32) [(.int (0 : Int32)), (.int (0 : Int32)), (.int (0 : Int32)), (.int (0 : Int32)), (.int (0 : Int32)), (.int (0 : Int32)), (.int (0 : Int32)), (.int (0 : Int32)), (.int (0 : Int32)), (.int (0 : Int32)), (.int (0 : Int32)), (.int (0 : Int32)), (.int (0 : Int32)), (.int (0 : Int32)), (.int (0 : Int32)), (.int (0 : Int32))] (.int (0 : Int32)) := Q710.keep Kq711 (ninS ne702_b2_698 nin0)
      have Q720 : Exa Z T711.heap b702 "com/example/axiomwright/axiomwright/Arcs" := A702.keep Kq711
      have Z711 : n0 ≤ T711.heap.size := Nat.le_trans Z702 Kq711.1
      have K711 : Keep h0 T711.heap [] := K702.trans Kq711 (allS (Or.inr sz702) all0)
      have N711 := Fr.app N698 Nq711
      refine own_go (A := _) (B := T711.setTop (mkF m 48 #[.val (.int p1), .val (.int p2), .val (.int p3), .val (.int p4), .val (.int p5), .val (.int p6), .val (.int (1 : Int32)), .val (.int (2 : Int32)), .val (.ref b692), .val (.ref b693), .val (.ref b695), .unset, .unset] [(.ref b702)])) (fun t k => st711.trans k) ?_
      refine own_go (A := T711.setTop (mkF m 48 #[.val (.int p1), .val (.int p2), .val (.int p3), .val (.int p4), .val (.int p5), .val (.int p6), .val (.int (1 : Int32)), .val (.int (2 : Int32)), .val (.ref b692), .val (.ref b693), .val (.ref b695), .unset, .unset] [(.ref b702)])) (B := T711.setTop (mkF m 62 #[.val (.int p1), .val (.int p2), .val (.int p3), .val (.int p4), .val (.int p5), .val (.int p6), .val (.int (1 : Int32)), .val (.int (2 : Int32)), .val (.ref b692), .val (.ref b693), .val (.ref b695), .val (.ref b702), .val (.int (0 : Int32))] [(.int p3), (.int p2), (.ref b695)])) (fun t k => ?_) ?_
      · show Steps p.tables e below (T711.setTop (mkF m 48 #[.val (.int p1), .val (.int p2), .val (.int p3), .val (.int p4), .val (.int p5), .val (.int p6), .val (.int (1 : Int32)), .val (.int (2 : Int32)), .val (.ref b692), .val (.ref b693), .val (.ref b695), .unset, .unset] [(.ref b702)])) _
        refine XS.astore X711.here hx rfl (hb hby at_48) rfl rfl (l' := #[.val (.int p1), .val (.int p2), .val (.int p3), .val (.int p4), .val (.int p5), .val (.int p6), .val (.int (1 : Int32)), .val (.int (2 : Int32)), .val (.ref b692), .val (.ref b693), .val (.ref b695), .val (.ref b702), .unset]) rfl ?_
        show Steps p.tables e below (T711.setTop (mkF m 50 #[.val (.int p1), .val (.int p2), .val (.int p3), .val (.int p4), .val (.int p5), .val (.int p6), .val (.int (1 : Int32)), .val (.int (2 : Int32)), .val (.ref b692), .val (.ref b693), .val (.ref b695), .val (.ref b702), .unset] [])) _
        refine XS.iconst X711.here hx rfl (hb hby at_50) ?_
        show Steps p.tables e below (T711.setTop (mkF m 51 #[.val (.int p1), .val (.int p2), .val (.int p3), .val (.int p4), .val (.int p5), .val (.int p6), .val (.int (1 : Int32)), .val (.int (2 : Int32)), .val (.ref b692), .val (.ref b693), .val (.ref b695), .val (.ref b702), .unset] [(.int (0 : Int32))])) _
        refine XS.istore X711.here hx rfl (hb hby at_51) rfl (l' := #[.val (.int p1), .val (.int p2), .val (.int p3), .val (.int p4), .val (.int p5), .val (.int p6), .val (.int (1 : Int32)), .val (.int (2 : Int32)), .val (.ref b692), .val (.ref b693), .val (.ref b695), .val (.ref b702), .val (.int (0 : Int32))]) rfl ?_
        show Steps p.tables e below (T711.setTop (mkF m 53 #[.val (.int p1), .val (.int p2), .val (.int p3), .val (.int p4), .val (.int p5), .val (.int p6), .val (.int (1 : Int32)), .val (.int (2 : Int32)), .val (.ref b692), .val (.ref b693), .val (.ref b695), .val (.ref b702), .val (.int (0 : Int32))] [])) _
        refine XS.iload X711.here hx rfl (hb hby at_53) rfl ?_
        show Steps p.tables e below (T711.setTop (mkF m 55 #[.val (.int p1), .val (.int p2), .val (.int p3), .val (.int p4), .val (.int p5), .val (.int p6), .val (.int (1 : Int32)), .val (.int (2 : Int32)), .val (.ref b692), .val (.ref b693), .val (.ref b695), .val (.ref b702), .val (.int (0 : Int32))] [(.int (1 : Int32))])) _
        refine XS.ifNo X711.here hx rfl (hb hby at_55) rfl ((if0 _ _).trans (feq (by decide : ¬ ((1 : Int32) = (0 : Int32)))).1) ?_
        show Steps p.tables e below (T711.setTop (mkF m 58 #[.val (.int p1), .val (.int p2), .val (.int p3), .val (.int p4), .val (.int p5), .val (.int p6), .val (.int (1 : Int32)), .val (.int (2 : Int32)), .val (.ref b692), .val (.ref b693), .val (.ref b695), .val (.ref b702), .val (.int (0 : Int32))] [])) _
        refine XS.aload X711.here hx rfl (hb hby at_58) rfl rfl ?_
        show Steps p.tables e below (T711.setTop (mkF m 60 #[.val (.int p1), .val (.int p2), .val (.int p3), .val (.int p4), .val (.int p5), .val (.int p6), .val (.int (1 : Int32)), .val (.int (2 : Int32)), .val (.ref b692), .val (.ref b693), .val (.ref b695), .val (.ref b702), .val (.int (0 : Int32))] [(.ref b695)])) _
        refine XS.iloadN X711.here hx rfl (hb hby at_60) rfl ?_
        show Steps p.tables e below (T711.setTop (mkF m 61 #[.val (.int p1), .val (.int p2), .val (.int p3), .val (.int p4), .val (.int p5), .val (.int p6), .val (.int (1 : Int32)), .val (.int (2 : Int32)), .val (.ref b692), .val (.ref b693), .val (.ref b695), .val (.ref b702), .val (.int (0 : Int32))] [(.int p2), (.ref b695)])) _
        refine XS.iloadN X711.here hx rfl (hb hby at_61) rfl ?_
        exact k
      obtain ⟨cq722, kq722, q722a, q722b, q722c⟩ := isOf hZ rfl Q714
      obtain ⟨_, _, ⟨T722, L722, k722, n722⟩, -, X722, ⟨Lc722, hQ722, l722, y722, z722⟩, st722⟩ := X711.virtualBack hx (y := (⟨"com/example/axiomwright/axiomwright/Arcs", "add", "(II)V"⟩ : MethodName)) (z := (⟨"com/example/axiomwright/axiomwright/Arcs", "add", "(II)V"⟩ : MethodName)) hown (mvT hZ (hw _ (List.mem_of_getElem? (i := 30) rfl))) (mvT hZ (hw _ (List.mem_of_getElem? (i := 31) rfl))) (notFace_of_selects (args := #[]) (mvT hZ (hw _ (List.mem_of_getElem? (i := 33) rfl)))) (mvT hZ (hw _ (List.mem_of_getElem? (i := 33) rfl))) (mvT hZ (hw _ (List.mem_of_getElem? (i := 32) rfl))) (by decide) (backOf (W := 0) (rm6 l Z a0 hw [] b695 p2 p3 (0 : Int32) b1_698 b2_698 k1_698 k2_698 [(.int (0 : Int32)), (.int (0 : Int32)), (.int (0 : Int32)), (.int (0 : Int32)), (.int (0 : Int32)), (.int (0 : Int32)), (.int (0 : Int32)), (.int (0 : Int32)), (.int (0 : Int32)), (.int (0 : Int32)), (.int (0 : Int32)), (.int (0 : Int32)), (.int (0 : Int32)), (.int (0 : Int32)), (.int (0 : Int32)), (.int (0 : Int32))] [(.int (0 : Int32)), (.int (0 : Int32)), (.int (0 : Int32)), (.int (0 : Int32)), (.int (0 : Int32)), (.int (0 : Int32)), (.int (0 : Int32)), (.int (0 : Int32)), (.int (0 : Int32)), (.int (0 : Int32)), (.int (0 : Int32)), (.int (0 : Int32)), (.int (0 : Int32)), (.int (0 : Int32)), (.int (0 : Int32)), (.int (0 : Int32))] T711.heap n0 Z711 Q714 Q717 Q715 Q716 Q718 Q719 low695 low_b1_698 low_b2_698 ne_b695_b1_698 ne_b695_b2_698 pq698_0 (by decide) (by decide) (by decide) (Nat.le_of_ble_eq_true rfl) (Nat.le_of_ble_eq_true rfl)) hZ (hw _ (List.mem_of_getElem? (i := 34) rfl)) (hw _ (List.mem_of_getElem? (i := 3) rfl)) (by decide) (by decide)) q722a q722c (g := (mkF m 62 #[.val (.int p1), .val (.int p2), .val (.int p3), .val (.int p4), .val (.int p5), .val (.int p6), .val (.int (1 : Int32)), .val (.int (2 : Int32)), .val (.ref b692), .val (.ref b693), .val (.ref b695), .val (.ref b702), .val (.int (0 : Int32))] [(.int p3), (.int p2), (.ref b695)])) rfl (by rw [hml]; rfl) (Steps.refl _) (argsL := [(.int p2), (.int p3)]) (rest := []) (lenOf pd_0 rfl) rfl (by show 2 * 0 + _ ≤ _; exact Nat.le_of_eq rfl) (hb hby at_62) (fun _ _ => ⟨rfl, rfl, (by decide : 8 + 0 ≤ _), (by decide : 76 + 0 ≤ _)⟩)
      dsimp only [Pt.U, Pt.locs, Pt.cells, Pt.slots] at X722 l722 y722 z722 st722 hQ722
      subst l722 y722 z722
      obtain ⟨rfl, Nq722, Kq722, U722_0, U722_1, U722_2, U722_3, U722_4⟩ := hQ722
      have Q723 : Arv Z T722.heap b692 k692 .int (3 : Int32) [(.int (0 : Int32)), (.int (0 : Int32)), (.int (0 : Int32))] (.int (0 : Int32)) := Q712.keep Kq722 (ninS ne695_b692 (ninS ne_b692_b1_698 (ninS ne_b692_b2_698 nin0)))
      have Q724 : Arv Z T722.heap b693 k693 .int (3 : Int32) [(.int (0 : Int32)), (.int (0 : Int32)), (.int (0 : Int32))] (.int (0 : Int32)) := Q713.keep Kq722 (ninS ne695_b693 (ninS ne_b693_b1_698 (ninS ne_b693_b2_698 nin0)))
      have Q725 : Exa Z T722.heap b695 "com/example/axiomwright/axiomwright/Arcs" := Q714.keep Kq722
      have Q726 : Exa Z T722.heap b702 "com/example/axiomwright/axiomwright/Arcs" := Q720.keep Kq722
      have Q727 : Fld Z T722.heap b702 "com/example/axiomwright/axiomwright/Arcs" "from" "[I" (.ref b1_711) := U711_0.keep Kq722 (ninS (Ne.symm ne702_b695) (ninS (Ne.symm ne702_b1_698) (ninS (Ne.symm ne702_b2_698) nin0)))
      have Q728 : Fld Z T722.heap b702 "com/example/axiomwright/axiomwright/Arcs" "to" "[I" (.ref b2_711) := U711_1.keep Kq722 (ninS (Ne.symm ne702_b695) (ninS (Ne.symm ne702_b1_698) (ninS (Ne.symm ne702_b2_698) nin0)))
      have Q729 : Fld Z T722.heap b702 "com/example/axiomwright/axiomwright/Arcs" "size" "I" (.int (0 : Int32)) := U711_2.keep Kq722 (ninS (Ne.symm ne702_b695) (ninS (Ne.symm ne702_b1_698) (ninS (Ne.symm ne702_b2_698) nin0)))
      have Q730 : Arv Z T722.heap b1_711 k1_711 .int (16 : Int32) [(.int (0 : Int32)), (.int (0 : Int32)), (.int (0 : Int32)), (.int (0 : Int32)), (.int (0 : Int32)), (.int (0 : Int32)), (.int (0 : Int32)), (.int (0 : Int32)), (.int (0 : Int32)), (.int (0 : Int32)), (.int (0 : Int32)), (.int (0 : Int32)), (.int (0 : Int32)), (.int (0 : Int32)), (.int (0 : Int32)), (.int (0 : Int32))] (.int (0 : Int32)) := U711_3.keep Kq722 (ninS (Ne.symm ne_b695_b1_711) (ninS (Ne.symm ne_b1_698_b1_711) (ninS (Ne.symm ne_b2_698_b1_711) nin0)))
      have Q731 : Arv Z T722.heap b2_711 k2_711 .int (16 : Int32) [(.int (0 : Int32)), (.int (0 : Int32)), (.int (0 : Int32)), (.int (0 : Int32)), (.int (0 : Int32)), (.int (0 : Int32)), (.int (0 : Int32)), (.int (0 : Int32)), (.int (0 : Int32)), (.int (0 : Int32)), (.int (0 : Int32)), (.int (0 : Int32)), (.int (0 : Int32)), (.int (0 : Int32)), (.int (0 : Int32)), (.int (0 : Int32))] (.int (0 : Int32)) := U711_4.keep Kq722 (ninS (Ne.symm ne_b695_b2_711) (ninS (Ne.symm ne_b1_698_b2_711) (ninS (Ne.symm ne_b2_698_b2_711) nin0)))
      have U722_0n : Fld Z T722.heap b695 "com/example/axiomwright/axiomwright/Arcs" "size" "I" (.int (1 : Int32)) := U722_0
      have U722_3n : Arv Z T722.heap b1_698 k1_698 .int (16 : Int32) [(.int p2), (.int (0 : Int32)), (.int (0 : Int32)), (.int (0 : Int32)), (.int (0 : Int32)), (.int (0 : Int32)), (.int (0 : Int32)), (.int (0 : Int32)), (.int (0 : Int32)), (.int (0 : Int32)), (.int (0 : Int32)), (.int (0 : Int32)), (.int (0 : Int32)), (.int (0 : Int32)), (.int (0 : Int32)), (.int (0 : Int32))] (.int (0 : Int32)) := U722_3
      have U722_4n : Arv Z T722.heap b2_698 k2_698 .int (16 : Int32) [(.int p3), (.int (0 : Int32)), (.int (0 : Int32)), (.int (0 : Int32)), (.int (0 : Int32)), (.int (0 : Int32)), (.int (0 : Int32)), (.int (0 : Int32)), (.int (0 : Int32)), (.int (0 : Int32)), (.int (0 : Int32)), (.int (0 : Int32)), (.int (0 : Int32)), (.int (0 : Int32)), (.int (0 : Int32)), (.int (0 : Int32))] (.int (0 : Int32)) := U722_4
      have Z722 : n0 ≤ T722.heap.size := Nat.le_trans Z711 Kq722.1
      have K722 : Keep h0 T722.heap [] := K711.trans Kq722 (allS (Or.inr sz695) (allS (Or.inr sz_b1_698) (allS (Or.inr sz_b2_698) all0)))
      have N722 := Fr.app N711 Nq722
      refine own_go (A := _) (B := T722.setTop (mkF m 65 #[.val (.int p1), .val (.int p2), .val (.int p3), .val (.int p4), .val (.int p5), .val (.int p6), .val (.int (1 : Int32)), .val (.int (2 : Int32)), .val (.ref b692), .val (.ref b693), .val (.ref b695), .val (.ref b702), .val (.int (0 : Int32))] [])) (fun t k => st722.trans k) ?_
      refine own_go (A := T722.setTop (mkF m 65 #[.val (.int p1), .val (.int p2), .val (.int p3), .val (.int p4), .val (.int p5), .val (.int p6), .val (.int (1 : Int32)), .val (.int (2 : Int32)), .val (.ref b692), .val (.ref b693), .val (.ref b695), .val (.ref b702), .val (.int (0 : Int32))] [])) (B := T722.setTop (mkF m 70 #[.val (.int p1), .val (.int p2), .val (.int p3), .val (.int p4), .val (.int p5), .val (.int p6), .val (.int (1 : Int32)), .val (.int (2 : Int32)), .val (.ref b692), .val (.ref b693), .val (.ref b695), .val (.ref b702), .val (.int (0 : Int32))] [(.int p2), (.int (0 : Int32)), (.ref b692)])) (fun t k => ?_) ?_
      · show Steps p.tables e below (T722.setTop (mkF m 65 #[.val (.int p1), .val (.int p2), .val (.int p3), .val (.int p4), .val (.int p5), .val (.int p6), .val (.int (1 : Int32)), .val (.int (2 : Int32)), .val (.ref b692), .val (.ref b693), .val (.ref b695), .val (.ref b702), .val (.int (0 : Int32))] [])) _
        refine XS.aload X722.here hx rfl (hb hby at_65) rfl rfl ?_
        show Steps p.tables e below (T722.setTop (mkF m 67 #[.val (.int p1), .val (.int p2), .val (.int p3), .val (.int p4), .val (.int p5), .val (.int p6), .val (.int (1 : Int32)), .val (.int (2 : Int32)), .val (.ref b692), .val (.ref b693), .val (.ref b695), .val (.ref b702), .val (.int (0 : Int32))] [(.ref b692)])) _
        refine XS.iload X722.here hx rfl (hb hby at_67) rfl ?_
        show Steps p.tables e below (T722.setTop (mkF m 69 #[.val (.int p1), .val (.int p2), .val (.int p3), .val (.int p4), .val (.int p5), .val (.int p6), .val (.int (1 : Int32)), .val (.int (2 : Int32)), .val (.ref b692), .val (.ref b693), .val (.ref b695), .val (.ref b702), .val (.int (0 : Int32))] [(.int (0 : Int32)), (.ref b692)])) _
        refine XS.iloadN X722.here hx rfl (hb hby at_69) rfl ?_
        exact k
      obtain ⟨cl732, Ar732, q732, S732, M732, Ha732, G732⟩ := Q723
      have hin732 : ¬ ((0 : Int32) < 0 ∨ cl732.slots.size ≤ ((0 : Int32)).toNatClampNeg) := inb_of S732 ⟨by decide, by decide⟩
      obtain ⟨T732, h732, X732, e732, W732, st732⟩ := stI X722 hx hZ rfl Ar732 (j := (0 : Int32)) hin732 (g := (mkF m 70 #[.val (.int p1), .val (.int p2), .val (.int p3), .val (.int p4), .val (.int p5), .val (.int p6), .val (.int (1 : Int32)), .val (.int (2 : Int32)), .val (.ref b692), .val (.ref b693), .val (.ref b695), .val (.ref b702), .val (.int (0 : Int32))] [(.int p2), (.int (0 : Int32)), (.ref b692)])) rfl rfl (hb hby at_70)
      have Q733 : Arv Z h732 b693 k693 .int (3 : Int32) [(.int (0 : Int32)), (.int (0 : Int32)), (.int (0 : Int32))] (.int (0 : Int32)) := Q724.other W732 (Ne.symm ne693_b692)
      have Q734 : Exa Z h732 b695 "com/example/axiomwright/axiomwright/Arcs" := Q725.wr W732
      have Q735 : Exa Z h732 b702 "com/example/axiomwright/axiomwright/Arcs" := Q726.wr W732
      have Q736 : Fld Z h732 b702 "com/example/axiomwright/axiomwright/Arcs" "from" "[I" (.ref b1_711) := Q727.other W732 (Or.inl (Ne.symm ne702_b692))
      have Q737 : Fld Z h732 b702 "com/example/axiomwright/axiomwright/Arcs" "to" "[I" (.ref b2_711) := Q728.other W732 (Or.inl (Ne.symm ne702_b692))
      have Q738 : Fld Z h732 b702 "com/example/axiomwright/axiomwright/Arcs" "size" "I" (.int (0 : Int32)) := Q729.other W732 (Or.inl (Ne.symm ne702_b692))
      have Q739 : Arv Z h732 b1_711 k1_711 .int (16 : Int32) [(.int (0 : Int32)), (.int (0 : Int32)), (.int (0 : Int32)), (.int (0 : Int32)), (.int (0 : Int32)), (.int (0 : Int32)), (.int (0 : Int32)), (.int (0 : Int32)), (.int (0 : Int32)), (.int (0 : Int32)), (.int (0 : Int32)), (.int (0 : Int32)), (.int (0 : Int32)), (.int (0 : Int32)), (.int (0 : Int32)), (.int (0 : Int32))] (.int (0 : Int32)) := Q730.other W732 (Ne.symm ne_b692_b1_711)
      have Q740 : Arv Z h732 b2_711 k2_711 .int (16 : Int32) [(.int (0 : Int32)), (.int (0 : Int32)), (.int (0 : Int32)), (.int (0 : Int32)), (.int (0 : Int32)), (.int (0 : Int32)), (.int (0 : Int32)), (.int (0 : Int32)), (.int (0 : Int32)), (.int (0 : Int32)), (.int (0 : Int32)), (.int (0 : Int32)), (.int (0 : Int32)), (.int (0 : Int32)), (.int (0 : Int32)), (.int (0 : Int32))] (.int (0 : Int32)) := Q731.other W732 (Ne.symm ne_b692_b2_711)
      have Q741 : Fld Z h732 b695 "com/example/axiomwright/axiomwright/Arcs" "size" "I" (.int (1 : Int32)) := U722_0n.other W732 (Or.inl (Ne.symm ne695_b692))
      have Q742 : Fld Z h732 b695 "com/example/axiomwright/axiomwright/Arcs" "from" "[I" (.ref b1_698) := U722_1.other W732 (Or.inl (Ne.symm ne695_b692))
      have Q743 : Fld Z h732 b695 "com/example/axiomwright/axiomwright/Arcs" "to" "[I" (.ref b2_698) := U722_2.other W732 (Or.inl (Ne.symm ne695_b692))
      have Q744 : Arv Z h732 b1_698 k1_698 .int (16 : Int32) [(.int p2), (.int (0 : Int32)), (.int (0 : Int32)), (.int (0 : Int32)), (.int (0 : Int32)), (.int (0 : Int32)), (.int (0 : Int32)), (.int (0 : Int32)), (.int (0 : Int32)), (.int (0 : Int32)), (.int (0 : Int32)), (.int (0 : Int32)), (.int (0 : Int32)), (.int (0 : Int32)), (.int (0 : Int32)), (.int (0 : Int32))] (.int (0 : Int32)) := U722_3n.other W732 (Ne.symm ne_b692_b1_698)
      have Q745 : Arv Z h732 b2_698 k2_698 .int (16 : Int32) [(.int p3), (.int (0 : Int32)), (.int (0 : Int32)), (.int (0 : Int32)), (.int (0 : Int32)), (.int (0 : Int32)), (.int (0 : Int32)), (.int (0 : Int32)), (.int (0 : Int32)), (.int (0 : Int32)), (.int (0 : Int32)), (.int (0 : Int32)), (.int (0 : Int32)), (.int (0 : Int32)), (.int (0 : Int32)), (.int (0 : Int32))] (.int (0 : Int32)) := U722_4n.other W732 (Ne.symm ne_b692_b2_698)
      have U732 : Arv Z h732 b692 k692 .int (3 : Int32) [(.int p2), (.int (0 : Int32)), (.int (0 : Int32))] (.int (0 : Int32)) := Arv.set Ar732 q732 S732 M732 Ha732 G732 rfl W732 0 rfl (Nat.le_of_ble_eq_true rfl)
      have Z732 : n0 ≤ h732.size := Nat.le_trans Z722 (Keep.of_wr W732).1
      have N732 := Fr.snoc X732 N722 low692
      have K732 := K722.wr W732 (Or.inr sz692)
      refine own_go st732 ?_
      refine own_go (A := T732.setTop (mkF m 71 #[.val (.int p1), .val (.int p2), .val (.int p3), .val (.int p4), .val (.int p5), .val (.int p6), .val (.int (1 : Int32)), .val (.int (2 : Int32)), .val (.ref b692), .val (.ref b693), .val (.ref b695), .val (.ref b702), .val (.int (0 : Int32))] [])) (B := T732.setTop (mkF m 76 #[.val (.int p1), .val (.int p2), .val (.int p3), .val (.int p4), .val (.int p5), .val (.int p6), .val (.int (1 : Int32)), .val (.int (2 : Int32)), .val (.ref b692), .val (.ref b693), .val (.ref b695), .val (.ref b702), .val (.int (0 : Int32))] [(.int p3), (.int (0 : Int32)), (.ref b693)])) (fun t k => ?_) ?_
      · show Steps p.tables e below (T732.setTop (mkF m 71 #[.val (.int p1), .val (.int p2), .val (.int p3), .val (.int p4), .val (.int p5), .val (.int p6), .val (.int (1 : Int32)), .val (.int (2 : Int32)), .val (.ref b692), .val (.ref b693), .val (.ref b695), .val (.ref b702), .val (.int (0 : Int32))] [])) _
        refine XS.aload X732.here hx rfl (hb hby at_71) rfl rfl ?_
        show Steps p.tables e below (T732.setTop (mkF m 73 #[.val (.int p1), .val (.int p2), .val (.int p3), .val (.int p4), .val (.int p5), .val (.int p6), .val (.int (1 : Int32)), .val (.int (2 : Int32)), .val (.ref b692), .val (.ref b693), .val (.ref b695), .val (.ref b702), .val (.int (0 : Int32))] [(.ref b693)])) _
        refine XS.iload X732.here hx rfl (hb hby at_73) rfl ?_
        show Steps p.tables e below (T732.setTop (mkF m 75 #[.val (.int p1), .val (.int p2), .val (.int p3), .val (.int p4), .val (.int p5), .val (.int p6), .val (.int (1 : Int32)), .val (.int (2 : Int32)), .val (.ref b692), .val (.ref b693), .val (.ref b695), .val (.ref b702), .val (.int (0 : Int32))] [(.int (0 : Int32)), (.ref b693)])) _
        refine XS.iloadN X732.here hx rfl (hb hby at_75) rfl ?_
        exact k
      obtain ⟨cl746, Ar746, q746, S746, M746, Ha746, G746⟩ := Q733
      have hin746 : ¬ ((0 : Int32) < 0 ∨ cl746.slots.size ≤ ((0 : Int32)).toNatClampNeg) := inb_of S746 ⟨by decide, by decide⟩
      obtain ⟨T746, h746, X746, e746, W746, st746⟩ := stI X732 hx hZ e732 Ar746 (j := (0 : Int32)) hin746 (g := (mkF m 76 #[.val (.int p1), .val (.int p2), .val (.int p3), .val (.int p4), .val (.int p5), .val (.int p6), .val (.int (1 : Int32)), .val (.int (2 : Int32)), .val (.ref b692), .val (.ref b693), .val (.ref b695), .val (.ref b702), .val (.int (0 : Int32))] [(.int p3), (.int (0 : Int32)), (.ref b693)])) rfl rfl (hb hby at_76)
      have Q747 : Exa Z h746 b695 "com/example/axiomwright/axiomwright/Arcs" := Q734.wr W746
      have Q748 : Exa Z h746 b702 "com/example/axiomwright/axiomwright/Arcs" := Q735.wr W746
      have Q749 : Fld Z h746 b702 "com/example/axiomwright/axiomwright/Arcs" "from" "[I" (.ref b1_711) := Q736.other W746 (Or.inl (Ne.symm ne702_b693))
      have Q750 : Fld Z h746 b702 "com/example/axiomwright/axiomwright/Arcs" "to" "[I" (.ref b2_711) := Q737.other W746 (Or.inl (Ne.symm ne702_b693))
      have Q751 : Fld Z h746 b702 "com/example/axiomwright/axiomwright/Arcs" "size" "I" (.int (0 : Int32)) := Q738.other W746 (Or.inl (Ne.symm ne702_b693))
      have Q752 : Arv Z h746 b1_711 k1_711 .int (16 : Int32) [(.int (0 : Int32)), (.int (0 : Int32)), (.int (0 : Int32)), (.int (0 : Int32)), (.int (0 : Int32)), (.int (0 : Int32)), (.int (0 : Int32)), (.int (0 : Int32)), (.int (0 : Int32)), (.int (0 : Int32)), (.int (0 : Int32)), (.int (0 : Int32)), (.int (0 : Int32)), (.int (0 : Int32)), (.int (0 : Int32)), (.int (0 : Int32))] (.int (0 : Int32)) := Q739.other W746 (Ne.symm ne_b693_b1_711)
      have Q753 : Arv Z h746 b2_711 k2_711 .int (16 : Int32) [(.int (0 : Int32)), (.int (0 : Int32)), (.int (0 : Int32)), (.int (0 : Int32)), (.int (0 : Int32)), (.int (0 : Int32)), (.int (0 : Int32)), (.int (0 : Int32)), (.int (0 : Int32)), (.int (0 : Int32)), (.int (0 : Int32)), (.int (0 : Int32)), (.int (0 : Int32)), (.int (0 : Int32)), (.int (0 : Int32)), (.int (0 : Int32))] (.int (0 : Int32)) := Q740.other W746 (Ne.symm ne_b693_b2_711)
      have Q754 : Fld Z h746 b695 "com/example/axiomwright/axiomwright/Arcs" "size" "I" (.int (1 : Int32)) := Q741.other W746 (Or.inl (Ne.symm ne695_b693))
      have Q755 : Fld Z h746 b695 "com/example/axiomwright/axiomwright/Arcs" "from" "[I" (.ref b1_698) := Q742.other W746 (Or.inl (Ne.symm ne695_b693))
      have Q756 : Fld Z h746 b695 "com/example/axiomwright/axiomwright/Arcs" "to" "[I" (.ref b2_698) := Q743.other W746 (Or.inl (Ne.symm ne695_b693))
      have Q757 : Arv Z h746 b1_698 k1_698 .int (16 : Int32) [(.int p2), (.int (0 : Int32)), (.int (0 : Int32)), (.int (0 : Int32)), (.int (0 : Int32)), (.int (0 : Int32)), (.int (0 : Int32)), (.int (0 : Int32)), (.int (0 : Int32)), (.int (0 : Int32)), (.int (0 : Int32)), (.int (0 : Int32)), (.int (0 : Int32)), (.int (0 : Int32)), (.int (0 : Int32)), (.int (0 : Int32))] (.int (0 : Int32)) := Q744.other W746 (Ne.symm ne_b693_b1_698)
      have Q758 : Arv Z h746 b2_698 k2_698 .int (16 : Int32) [(.int p3), (.int (0 : Int32)), (.int (0 : Int32)), (.int (0 : Int32)), (.int (0 : Int32)), (.int (0 : Int32)), (.int (0 : Int32)), (.int (0 : Int32)), (.int (0 : Int32)), (.int (0 : Int32)), (.int (0 : Int32)), (.int (0 : Int32)), (.int (0 : Int32)), (.int (0 : Int32)), (.int (0 : Int32)), (.int (0 : Int32))] (.int (0 : Int32)) := Q745.other W746 (Ne.symm ne_b693_b2_698)
      have Q759 : Arv Z h746 b692 k692 .int (3 : Int32) [(.int p2), (.int (0 : Int32)), (.int (0 : Int32))] (.int (0 : Int32)) := U732.other W746 ne693_b692
      have U746 : Arv Z h746 b693 k693 .int (3 : Int32) [(.int p3), (.int (0 : Int32)), (.int (0 : Int32))] (.int (0 : Int32)) := Arv.set Ar746 q746 S746 M746 Ha746 G746 rfl W746 0 rfl (Nat.le_of_ble_eq_true rfl)
      have Z746 : n0 ≤ h746.size := Nat.le_trans Z732 (Keep.of_wr W746).1
      have N746 := Fr.snoc X746 N732 low693
      have K746 := K732.wr W746 (Or.inr sz693)
      refine own_go st746 ?_
      refine own_go (A := T746.setTop (mkF m 77 #[.val (.int p1), .val (.int p2), .val (.int p3), .val (.int p4), .val (.int p5), .val (.int p6), .val (.int (1 : Int32)), .val (.int (2 : Int32)), .val (.ref b692), .val (.ref b693), .val (.ref b695), .val (.ref b702), .val (.int (0 : Int32))] [])) (B := T746.setTop (mkF m 91 #[.val (.int p1), .val (.int p2), .val (.int p3), .val (.int p4), .val (.int p5), .val (.int p6), .val (.int (1 : Int32)), .val (.int (2 : Int32)), .val (.ref b692), .val (.ref b693), .val (.ref b695), .val (.ref b702), .val (.int (1 : Int32))] [(.int p5), (.int p4), (.ref b702)])) (fun t k => ?_) ?_
      · show Steps p.tables e below (T746.setTop (mkF m 77 #[.val (.int p1), .val (.int p2), .val (.int p3), .val (.int p4), .val (.int p5), .val (.int p6), .val (.int (1 : Int32)), .val (.int (2 : Int32)), .val (.ref b692), .val (.ref b693), .val (.ref b695), .val (.ref b702), .val (.int (0 : Int32))] [])) _
        refine XS.iinc X746.here hx rfl (hb hby at_77) rfl (l' := #[.val (.int p1), .val (.int p2), .val (.int p3), .val (.int p4), .val (.int p5), .val (.int p6), .val (.int (1 : Int32)), .val (.int (2 : Int32)), .val (.ref b692), .val (.ref b693), .val (.ref b695), .val (.ref b702), .val (.int (1 : Int32))]) rfl ?_
        show Steps p.tables e below (T746.setTop (mkF m 80 #[.val (.int p1), .val (.int p2), .val (.int p3), .val (.int p4), .val (.int p5), .val (.int p6), .val (.int (1 : Int32)), .val (.int (2 : Int32)), .val (.ref b692), .val (.ref b693), .val (.ref b695), .val (.ref b702), .val (.int (1 : Int32))] [])) _
        refine XS.iload X746.here hx rfl (hb hby at_80) rfl ?_
        show Steps p.tables e below (T746.setTop (mkF m 82 #[.val (.int p1), .val (.int p2), .val (.int p3), .val (.int p4), .val (.int p5), .val (.int p6), .val (.int (1 : Int32)), .val (.int (2 : Int32)), .val (.ref b692), .val (.ref b693), .val (.ref b695), .val (.ref b702), .val (.int (1 : Int32))] [(.int (2 : Int32))])) _
        refine XS.iconst X746.here hx rfl (hb hby at_82) ?_
        show Steps p.tables e below (T746.setTop (mkF m 83 #[.val (.int p1), .val (.int p2), .val (.int p3), .val (.int p4), .val (.int p5), .val (.int p6), .val (.int (1 : Int32)), .val (.int (2 : Int32)), .val (.ref b692), .val (.ref b693), .val (.ref b695), .val (.ref b702), .val (.int (1 : Int32))] [(.int (1 : Int32)), (.int (2 : Int32))])) _
        refine XS.icmpNo X746.here hx rfl (hb hby at_83) rfl (flt (by decide : ¬ ((2 : Int32) < (1 : Int32)))).1 ?_
        show Steps p.tables e below (T746.setTop (mkF m 86 #[.val (.int p1), .val (.int p2), .val (.int p3), .val (.int p4), .val (.int p5), .val (.int p6), .val (.int (1 : Int32)), .val (.int (2 : Int32)), .val (.ref b692), .val (.ref b693), .val (.ref b695), .val (.ref b702), .val (.int (1 : Int32))] [])) _
        refine XS.aload X746.here hx rfl (hb hby at_86) rfl rfl ?_
        show Steps p.tables e below (T746.setTop (mkF m 88 #[.val (.int p1), .val (.int p2), .val (.int p3), .val (.int p4), .val (.int p5), .val (.int p6), .val (.int (1 : Int32)), .val (.int (2 : Int32)), .val (.ref b692), .val (.ref b693), .val (.ref b695), .val (.ref b702), .val (.int (1 : Int32))] [(.ref b702)])) _
        refine XS.iloadN X746.here hx rfl (hb hby at_88) rfl ?_
        show Steps p.tables e below (T746.setTop (mkF m 89 #[.val (.int p1), .val (.int p2), .val (.int p3), .val (.int p4), .val (.int p5), .val (.int p6), .val (.int (1 : Int32)), .val (.int (2 : Int32)), .val (.ref b692), .val (.ref b693), .val (.ref b695), .val (.ref b702), .val (.int (1 : Int32))] [(.int p4), (.ref b702)])) _
        refine XS.iload X746.here hx rfl (hb hby at_89) rfl ?_
        exact k
      obtain ⟨cq761, kq761, q761a, q761b, q761c⟩ := isOf hZ e746 Q748
      obtain ⟨_, _, ⟨T761, L761, k761, n761⟩, -, X761, ⟨Lc761, hQ761, l761, y761, z761⟩, st761⟩ := X746.virtualBack hx (y := (⟨"com/example/axiomwright/axiomwright/Arcs", "add", "(II)V"⟩ : MethodName)) (z := (⟨"com/example/axiomwright/axiomwright/Arcs", "add", "(II)V"⟩ : MethodName)) hown (mvT hZ (hw _ (List.mem_of_getElem? (i := 30) rfl))) (mvT hZ (hw _ (List.mem_of_getElem? (i := 31) rfl))) (notFace_of_selects (args := #[]) (mvT hZ (hw _ (List.mem_of_getElem? (i := 33) rfl)))) (mvT hZ (hw _ (List.mem_of_getElem? (i := 33) rfl))) (mvT hZ (hw _ (List.mem_of_getElem? (i := 32) rfl))) (by decide) (backOf (W := 0) (rm6 l Z a0 hw [] b702 p4 p5 (0 : Int32) b1_711 b2_711 k1_711 k2_711 [(.int (0 : Int32)), (.int (0 : Int32)), (.int (0 : Int32)), (.int (0 : Int32)), (.int (0 : Int32)), (.int (0 : Int32)), (.int (0 : Int32)), (.int (0 : Int32)), (.int (0 : Int32)), (.int (0 : Int32)), (.int (0 : Int32)), (.int (0 : Int32)), (.int (0 : Int32)), (.int (0 : Int32)), (.int (0 : Int32)), (.int (0 : Int32))] [(.int (0 : Int32)), (.int (0 : Int32)), (.int (0 : Int32)), (.int (0 : Int32)), (.int (0 : Int32)), (.int (0 : Int32)), (.int (0 : Int32)), (.int (0 : Int32)), (.int (0 : Int32)), (.int (0 : Int32)), (.int (0 : Int32)), (.int (0 : Int32)), (.int (0 : Int32)), (.int (0 : Int32)), (.int (0 : Int32)), (.int (0 : Int32))] h746 n0 Z746 Q748 Q751 Q749 Q750 Q752 Q753 low702 low_b1_711 low_b2_711 ne_b702_b1_711 ne_b702_b2_711 pq711_0 (by decide) (by decide) (by decide) (Nat.le_of_ble_eq_true rfl) (Nat.le_of_ble_eq_true rfl)) hZ (hw _ (List.mem_of_getElem? (i := 34) rfl)) (hw _ (List.mem_of_getElem? (i := 3) rfl)) (by decide) (by decide)) q761a q761c (g := (mkF m 91 #[.val (.int p1), .val (.int p2), .val (.int p3), .val (.int p4), .val (.int p5), .val (.int p6), .val (.int (1 : Int32)), .val (.int (2 : Int32)), .val (.ref b692), .val (.ref b693), .val (.ref b695), .val (.ref b702), .val (.int (1 : Int32))] [(.int p5), (.int p4), (.ref b702)])) rfl (by rw [hml]; rfl) (Steps.refl _) (argsL := [(.int p4), (.int p5)]) (rest := []) (lenOf pd_0 rfl) rfl (by show 2 * 0 + _ ≤ _; exact Nat.le_of_eq rfl) (hb hby at_91) (fun _ _ => ⟨rfl, e746, (by decide : 8 + 0 ≤ _), (by decide : 76 + 0 ≤ _)⟩)
      dsimp only [Pt.U, Pt.locs, Pt.cells, Pt.slots] at X761 l761 y761 z761 st761 hQ761
      subst l761 y761 z761
      obtain ⟨rfl, Nq761, Kq761, U761_0, U761_1, U761_2, U761_3, U761_4⟩ := hQ761
      have Q762 : Exa Z T761.heap b695 "com/example/axiomwright/axiomwright/Arcs" := Q747.keep Kq761
      have Q763 : Exa Z T761.heap b702 "com/example/axiomwright/axiomwright/Arcs" := Q748.keep Kq761
      have Q764 : Fld Z T761.heap b695 "com/example/axiomwright/axiomwright/Arcs" "size" "I" (.int (1 : Int32)) := Q754.keep Kq761 (ninS ne702_b695 (ninS ne_b695_b1_711 (ninS ne_b695_b2_711 nin0)))
      have Q765 : Fld Z T761.heap b695 "com/example/axiomwright/axiomwright/Arcs" "from" "[I" (.ref b1_698) := Q755.keep Kq761 (ninS ne702_b695 (ninS ne_b695_b1_711 (ninS ne_b695_b2_711 nin0)))
      have Q766 : Fld Z T761.heap b695 "com/example/axiomwright/axiomwright/Arcs" "to" "[I" (.ref b2_698) := Q756.keep Kq761 (ninS ne702_b695 (ninS ne_b695_b1_711 (ninS ne_b695_b2_711 nin0)))
      have Q767 : Arv Z T761.heap b1_698 k1_698 .int (16 : Int32) [(.int p2), (.int (0 : Int32)), (.int (0 : Int32)), (.int (0 : Int32)), (.int (0 : Int32)), (.int (0 : Int32)), (.int (0 : Int32)), (.int (0 : Int32)), (.int (0 : Int32)), (.int (0 : Int32)), (.int (0 : Int32)), (.int (0 : Int32)), (.int (0 : Int32)), (.int (0 : Int32)), (.int (0 : Int32)), (.int (0 : Int32))] (.int (0 : Int32)) := Q757.keep Kq761 (ninS ne702_b1_698 (ninS ne_b1_698_b1_711 (ninS ne_b1_698_b2_711 nin0)))
      have Q768 : Arv Z T761.heap b2_698 k2_698 .int (16 : Int32) [(.int p3), (.int (0 : Int32)), (.int (0 : Int32)), (.int (0 : Int32)), (.int (0 : Int32)), (.int (0 : Int32)), (.int (0 : Int32)), (.int (0 : Int32)), (.int (0 : Int32)), (.int (0 : Int32)), (.int (0 : Int32)), (.int (0 : Int32)), (.int (0 : Int32)), (.int (0 : Int32)), (.int (0 : Int32)), (.int (0 : Int32))] (.int (0 : Int32)) := Q758.keep Kq761 (ninS ne702_b2_698 (ninS ne_b2_698_b1_711 (ninS ne_b2_698_b2_711 nin0)))
      have Q769 : Arv Z T761.heap b692 k692 .int (3 : Int32) [(.int p2), (.int (0 : Int32)), (.int (0 : Int32))] (.int (0 : Int32)) := Q759.keep Kq761 (ninS ne702_b692 (ninS ne_b692_b1_711 (ninS ne_b692_b2_711 nin0)))
      have Q770 : Arv Z T761.heap b693 k693 .int (3 : Int32) [(.int p3), (.int (0 : Int32)), (.int (0 : Int32))] (.int (0 : Int32)) := U746.keep Kq761 (ninS ne702_b693 (ninS ne_b693_b1_711 (ninS ne_b693_b2_711 nin0)))
      have U761_0n : Fld Z T761.heap b702 "com/example/axiomwright/axiomwright/Arcs" "size" "I" (.int (1 : Int32)) := U761_0
      have U761_3n : Arv Z T761.heap b1_711 k1_711 .int (16 : Int32) [(.int p4), (.int (0 : Int32)), (.int (0 : Int32)), (.int (0 : Int32)), (.int (0 : Int32)), (.int (0 : Int32)), (.int (0 : Int32)), (.int (0 : Int32)), (.int (0 : Int32)), (.int (0 : Int32)), (.int (0 : Int32)), (.int (0 : Int32)), (.int (0 : Int32)), (.int (0 : Int32)), (.int (0 : Int32)), (.int (0 : Int32))] (.int (0 : Int32)) := U761_3
      have U761_4n : Arv Z T761.heap b2_711 k2_711 .int (16 : Int32) [(.int p5), (.int (0 : Int32)), (.int (0 : Int32)), (.int (0 : Int32)), (.int (0 : Int32)), (.int (0 : Int32)), (.int (0 : Int32)), (.int (0 : Int32)), (.int (0 : Int32)), (.int (0 : Int32)), (.int (0 : Int32)), (.int (0 : Int32)), (.int (0 : Int32)), (.int (0 : Int32)), (.int (0 : Int32)), (.int (0 : Int32))] (.int (0 : Int32)) := U761_4
      have Z761 : n0 ≤ T761.heap.size := Nat.le_trans Z746 Kq761.1
      have K761 : Keep h0 T761.heap [] := K746.trans Kq761 (allS (Or.inr sz702) (allS (Or.inr sz_b1_711) (allS (Or.inr sz_b2_711) all0)))
      have N761 := Fr.app N746 Nq761
      refine own_go (A := _) (B := T761.setTop (mkF m 94 #[.val (.int p1), .val (.int p2), .val (.int p3), .val (.int p4), .val (.int p5), .val (.int p6), .val (.int (1 : Int32)), .val (.int (2 : Int32)), .val (.ref b692), .val (.ref b693), .val (.ref b695), .val (.ref b702), .val (.int (1 : Int32))] [])) (fun t k => st761.trans k) ?_
      refine own_go (A := T761.setTop (mkF m 94 #[.val (.int p1), .val (.int p2), .val (.int p3), .val (.int p4), .val (.int p5), .val (.int p6), .val (.int (1 : Int32)), .val (.int (2 : Int32)), .val (.ref b692), .val (.ref b693), .val (.ref b695), .val (.ref b702), .val (.int (1 : Int32))] [])) (B := T761.setTop (mkF m 99 #[.val (.int p1), .val (.int p2), .val (.int p3), .val (.int p4), .val (.int p5), .val (.int p6), .val (.int (1 : Int32)), .val (.int (2 : Int32)), .val (.ref b692), .val (.ref b693), .val (.ref b695), .val (.ref b702), .val (.int (1 : Int32))] [(.int p4), (.int (1 : Int32)), (.ref b692)])) (fun t k => ?_) ?_
      · show Steps p.tables e below (T761.setTop (mkF m 94 #[.val (.int p1), .val (.int p2), .val (.int p3), .val (.int p4), .val (.int p5), .val (.int p6), .val (.int (1 : Int32)), .val (.int (2 : Int32)), .val (.ref b692), .val (.ref b693), .val (.ref b695), .val (.ref b702), .val (.int (1 : Int32))] [])) _
        refine XS.aload X761.here hx rfl (hb hby at_94) rfl rfl ?_
        show Steps p.tables e below (T761.setTop (mkF m 96 #[.val (.int p1), .val (.int p2), .val (.int p3), .val (.int p4), .val (.int p5), .val (.int p6), .val (.int (1 : Int32)), .val (.int (2 : Int32)), .val (.ref b692), .val (.ref b693), .val (.ref b695), .val (.ref b702), .val (.int (1 : Int32))] [(.ref b692)])) _
        refine XS.iload X761.here hx rfl (hb hby at_96) rfl ?_
        show Steps p.tables e below (T761.setTop (mkF m 98 #[.val (.int p1), .val (.int p2), .val (.int p3), .val (.int p4), .val (.int p5), .val (.int p6), .val (.int (1 : Int32)), .val (.int (2 : Int32)), .val (.ref b692), .val (.ref b693), .val (.ref b695), .val (.ref b702), .val (.int (1 : Int32))] [(.int (1 : Int32)), (.ref b692)])) _
        refine XS.iloadN X761.here hx rfl (hb hby at_98) rfl ?_
        exact k
      obtain ⟨cl771, Ar771, q771, S771, M771, Ha771, G771⟩ := Q769
      have hin771 : ¬ ((1 : Int32) < 0 ∨ cl771.slots.size ≤ ((1 : Int32)).toNatClampNeg) := inb_of S771 ⟨by decide, by decide⟩
      obtain ⟨T771, h771, X771, e771, W771, st771⟩ := stI X761 hx hZ rfl Ar771 (j := (1 : Int32)) hin771 (g := (mkF m 99 #[.val (.int p1), .val (.int p2), .val (.int p3), .val (.int p4), .val (.int p5), .val (.int p6), .val (.int (1 : Int32)), .val (.int (2 : Int32)), .val (.ref b692), .val (.ref b693), .val (.ref b695), .val (.ref b702), .val (.int (1 : Int32))] [(.int p4), (.int (1 : Int32)), (.ref b692)])) rfl rfl (hb hby at_99)
      have Q772 : Exa Z h771 b695 "com/example/axiomwright/axiomwright/Arcs" := Q762.wr W771
      have Q773 : Exa Z h771 b702 "com/example/axiomwright/axiomwright/Arcs" := Q763.wr W771
      have Q774 : Fld Z h771 b695 "com/example/axiomwright/axiomwright/Arcs" "size" "I" (.int (1 : Int32)) := Q764.other W771 (Or.inl (Ne.symm ne695_b692))
      have Q775 : Fld Z h771 b695 "com/example/axiomwright/axiomwright/Arcs" "from" "[I" (.ref b1_698) := Q765.other W771 (Or.inl (Ne.symm ne695_b692))
      have Q776 : Fld Z h771 b695 "com/example/axiomwright/axiomwright/Arcs" "to" "[I" (.ref b2_698) := Q766.other W771 (Or.inl (Ne.symm ne695_b692))
      have Q777 : Arv Z h771 b1_698 k1_698 .int (16 : Int32) [(.int p2), (.int (0 : Int32)), (.int (0 : Int32)), (.int (0 : Int32)), (.int (0 : Int32)), (.int (0 : Int32)), (.int (0 : Int32)), (.int (0 : Int32)), (.int (0 : Int32)), (.int (0 : Int32)), (.int (0 : Int32)), (.int (0 : Int32)), (.int (0 : Int32)), (.int (0 : Int32)), (.int (0 : Int32)), (.int (0 : Int32))] (.int (0 : Int32)) := Q767.other W771 (Ne.symm ne_b692_b1_698)
      have Q778 : Arv Z h771 b2_698 k2_698 .int (16 : Int32) [(.int p3), (.int (0 : Int32)), (.int (0 : Int32)), (.int (0 : Int32)), (.int (0 : Int32)), (.int (0 : Int32)), (.int (0 : Int32)), (.int (0 : Int32)), (.int (0 : Int32)), (.int (0 : Int32)), (.int (0 : Int32)), (.int (0 : Int32)), (.int (0 : Int32)), (.int (0 : Int32)), (.int (0 : Int32)), (.int (0 : Int32))] (.int (0 : Int32)) := Q768.other W771 (Ne.symm ne_b692_b2_698)
      have Q779 : Arv Z h771 b693 k693 .int (3 : Int32) [(.int p3), (.int (0 : Int32)), (.int (0 : Int32))] (.int (0 : Int32)) := Q770.other W771 (Ne.symm ne693_b692)
      have Q780 : Fld Z h771 b702 "com/example/axiomwright/axiomwright/Arcs" "size" "I" (.int (1 : Int32)) := U761_0n.other W771 (Or.inl (Ne.symm ne702_b692))
      have Q781 : Fld Z h771 b702 "com/example/axiomwright/axiomwright/Arcs" "from" "[I" (.ref b1_711) := U761_1.other W771 (Or.inl (Ne.symm ne702_b692))
      have Q782 : Fld Z h771 b702 "com/example/axiomwright/axiomwright/Arcs" "to" "[I" (.ref b2_711) := U761_2.other W771 (Or.inl (Ne.symm ne702_b692))
      have Q783 : Arv Z h771 b1_711 k1_711 .int (16 : Int32) [(.int p4), (.int (0 : Int32)), (.int (0 : Int32)), (.int (0 : Int32)), (.int (0 : Int32)), (.int (0 : Int32)), (.int (0 : Int32)), (.int (0 : Int32)), (.int (0 : Int32)), (.int (0 : Int32)), (.int (0 : Int32)), (.int (0 : Int32)), (.int (0 : Int32)), (.int (0 : Int32)), (.int (0 : Int32)), (.int (0 : Int32))] (.int (0 : Int32)) := U761_3n.other W771 (Ne.symm ne_b692_b1_711)
      have Q784 : Arv Z h771 b2_711 k2_711 .int (16 : Int32) [(.int p5), (.int (0 : Int32)), (.int (0 : Int32)), (.int (0 : Int32)), (.int (0 : Int32)), (.int (0 : Int32)), (.int (0 : Int32)), (.int (0 : Int32)), (.int (0 : Int32)), (.int (0 : Int32)), (.int (0 : Int32)), (.int (0 : Int32)), (.int (0 : Int32)), (.int (0 : Int32)), (.int (0 : Int32)), (.int (0 : Int32))] (.int (0 : Int32)) := U761_4n.other W771 (Ne.symm ne_b692_b2_711)
      have U771 : Arv Z h771 b692 k692 .int (3 : Int32) [(.int p2), (.int p4), (.int (0 : Int32))] (.int (0 : Int32)) := Arv.set Ar771 q771 S771 M771 Ha771 G771 rfl W771 1 rfl (Nat.le_of_ble_eq_true rfl)
      have Z771 : n0 ≤ h771.size := Nat.le_trans Z761 (Keep.of_wr W771).1
      have N771 := Fr.snoc X771 N761 low692
      have K771 := K761.wr W771 (Or.inr sz692)
      refine own_go st771 ?_
      refine own_go (A := T771.setTop (mkF m 100 #[.val (.int p1), .val (.int p2), .val (.int p3), .val (.int p4), .val (.int p5), .val (.int p6), .val (.int (1 : Int32)), .val (.int (2 : Int32)), .val (.ref b692), .val (.ref b693), .val (.ref b695), .val (.ref b702), .val (.int (1 : Int32))] [])) (B := T771.setTop (mkF m 106 #[.val (.int p1), .val (.int p2), .val (.int p3), .val (.int p4), .val (.int p5), .val (.int p6), .val (.int (1 : Int32)), .val (.int (2 : Int32)), .val (.ref b692), .val (.ref b693), .val (.ref b695), .val (.ref b702), .val (.int (1 : Int32))] [(.int p5), (.int (1 : Int32)), (.ref b693)])) (fun t k => ?_) ?_
      · show Steps p.tables e below (T771.setTop (mkF m 100 #[.val (.int p1), .val (.int p2), .val (.int p3), .val (.int p4), .val (.int p5), .val (.int p6), .val (.int (1 : Int32)), .val (.int (2 : Int32)), .val (.ref b692), .val (.ref b693), .val (.ref b695), .val (.ref b702), .val (.int (1 : Int32))] [])) _
        refine XS.aload X771.here hx rfl (hb hby at_100) rfl rfl ?_
        show Steps p.tables e below (T771.setTop (mkF m 102 #[.val (.int p1), .val (.int p2), .val (.int p3), .val (.int p4), .val (.int p5), .val (.int p6), .val (.int (1 : Int32)), .val (.int (2 : Int32)), .val (.ref b692), .val (.ref b693), .val (.ref b695), .val (.ref b702), .val (.int (1 : Int32))] [(.ref b693)])) _
        refine XS.iload X771.here hx rfl (hb hby at_102) rfl ?_
        show Steps p.tables e below (T771.setTop (mkF m 104 #[.val (.int p1), .val (.int p2), .val (.int p3), .val (.int p4), .val (.int p5), .val (.int p6), .val (.int (1 : Int32)), .val (.int (2 : Int32)), .val (.ref b692), .val (.ref b693), .val (.ref b695), .val (.ref b702), .val (.int (1 : Int32))] [(.int (1 : Int32)), (.ref b693)])) _
        refine XS.iload X771.here hx rfl (hb hby at_104) rfl ?_
        exact k
      obtain ⟨cl785, Ar785, q785, S785, M785, Ha785, G785⟩ := Q779
      have hin785 : ¬ ((1 : Int32) < 0 ∨ cl785.slots.size ≤ ((1 : Int32)).toNatClampNeg) := inb_of S785 ⟨by decide, by decide⟩
      obtain ⟨T785, h785, X785, e785, W785, st785⟩ := stI X771 hx hZ e771 Ar785 (j := (1 : Int32)) hin785 (g := (mkF m 106 #[.val (.int p1), .val (.int p2), .val (.int p3), .val (.int p4), .val (.int p5), .val (.int p6), .val (.int (1 : Int32)), .val (.int (2 : Int32)), .val (.ref b692), .val (.ref b693), .val (.ref b695), .val (.ref b702), .val (.int (1 : Int32))] [(.int p5), (.int (1 : Int32)), (.ref b693)])) rfl rfl (hb hby at_106)
      have Q786 : Exa Z h785 b695 "com/example/axiomwright/axiomwright/Arcs" := Q772.wr W785
      have Q787 : Exa Z h785 b702 "com/example/axiomwright/axiomwright/Arcs" := Q773.wr W785
      have Q788 : Fld Z h785 b695 "com/example/axiomwright/axiomwright/Arcs" "size" "I" (.int (1 : Int32)) := Q774.other W785 (Or.inl (Ne.symm ne695_b693))
      have Q789 : Fld Z h785 b695 "com/example/axiomwright/axiomwright/Arcs" "from" "[I" (.ref b1_698) := Q775.other W785 (Or.inl (Ne.symm ne695_b693))
      have Q790 : Fld Z h785 b695 "com/example/axiomwright/axiomwright/Arcs" "to" "[I" (.ref b2_698) := Q776.other W785 (Or.inl (Ne.symm ne695_b693))
      have Q791 : Arv Z h785 b1_698 k1_698 .int (16 : Int32) [(.int p2), (.int (0 : Int32)), (.int (0 : Int32)), (.int (0 : Int32)), (.int (0 : Int32)), (.int (0 : Int32)), (.int (0 : Int32)), (.int (0 : Int32)), (.int (0 : Int32)), (.int (0 : Int32)), (.int (0 : Int32)), (.int (0 : Int32)), (.int (0 : Int32)), (.int (0 : Int32)), (.int (0 : Int32)), (.int (0 : Int32))] (.int (0 : Int32)) := Q777.other W785 (Ne.symm ne_b693_b1_698)
      have Q792 : Arv Z h785 b2_698 k2_698 .int (16 : Int32) [(.int p3), (.int (0 : Int32)), (.int (0 : Int32)), (.int (0 : Int32)), (.int (0 : Int32)), (.int (0 : Int32)), (.int (0 : Int32)), (.int (0 : Int32)), (.int (0 : Int32)), (.int (0 : Int32)), (.int (0 : Int32)), (.int (0 : Int32)), (.int (0 : Int32)), (.int (0 : Int32)), (.int (0 : Int32)), (.int (0 : Int32))] (.int (0 : Int32)) := Q778.other W785 (Ne.symm ne_b693_b2_698)
      have Q793 : Fld Z h785 b702 "com/example/axiomwright/axiomwright/Arcs" "size" "I" (.int (1 : Int32)) := Q780.other W785 (Or.inl (Ne.symm ne702_b693))
      have Q794 : Fld Z h785 b702 "com/example/axiomwright/axiomwright/Arcs" "from" "[I" (.ref b1_711) := Q781.other W785 (Or.inl (Ne.symm ne702_b693))
      have Q795 : Fld Z h785 b702 "com/example/axiomwright/axiomwright/Arcs" "to" "[I" (.ref b2_711) := Q782.other W785 (Or.inl (Ne.symm ne702_b693))
      have Q796 : Arv Z h785 b1_711 k1_711 .int (16 : Int32) [(.int p4), (.int (0 : Int32)), (.int (0 : Int32)), (.int (0 : Int32)), (.int (0 : Int32)), (.int (0 : Int32)), (.int (0 : Int32)), (.int (0 : Int32)), (.int (0 : Int32)), (.int (0 : Int32)), (.int (0 : Int32)), (.int (0 : Int32)), (.int (0 : Int32)), (.int (0 : Int32)), (.int (0 : Int32)), (.int (0 : Int32))] (.int (0 : Int32)) := Q783.other W785 (Ne.symm ne_b693_b1_711)
      have Q797 : Arv Z h785 b2_711 k2_711 .int (16 : Int32) [(.int p5), (.int (0 : Int32)), (.int (0 : Int32)), (.int (0 : Int32)), (.int (0 : Int32)), (.int (0 : Int32)), (.int (0 : Int32)), (.int (0 : Int32)), (.int (0 : Int32)), (.int (0 : Int32)), (.int (0 : Int32)), (.int (0 : Int32)), (.int (0 : Int32)), (.int (0 : Int32)), (.int (0 : Int32)), (.int (0 : Int32))] (.int (0 : Int32)) := Q784.other W785 (Ne.symm ne_b693_b2_711)
      have Q798 : Arv Z h785 b692 k692 .int (3 : Int32) [(.int p2), (.int p4), (.int (0 : Int32))] (.int (0 : Int32)) := U771.other W785 ne693_b692
      have U785 : Arv Z h785 b693 k693 .int (3 : Int32) [(.int p3), (.int p5), (.int (0 : Int32))] (.int (0 : Int32)) := Arv.set Ar785 q785 S785 M785 Ha785 G785 rfl W785 1 rfl (Nat.le_of_ble_eq_true rfl)
      have Z785 : n0 ≤ h785.size := Nat.le_trans Z771 (Keep.of_wr W785).1
      have N785 := Fr.snoc X785 N771 low693
      have K785 := K771.wr W785 (Or.inr sz693)
      refine own_go st785 ?_
      refine own_go (A := T785.setTop (mkF m 107 #[.val (.int p1), .val (.int p2), .val (.int p3), .val (.int p4), .val (.int p5), .val (.int p6), .val (.int (1 : Int32)), .val (.int (2 : Int32)), .val (.ref b692), .val (.ref b693), .val (.ref b695), .val (.ref b702), .val (.int (1 : Int32))] [])) (B := T785.setTop (mkF m 121 #[.val (.int p1), .val (.int p2), .val (.int p3), .val (.int p4), .val (.int p5), .val (.int p6), .val (.int (1 : Int32)), .val (.int (2 : Int32)), .val (.ref b692), .val (.ref b693), .val (.ref b695), .val (.ref b702), .val (.int (2 : Int32))] [(.int p2), (.int p6), (.ref b702)])) (fun t k => ?_) ?_
      · show Steps p.tables e below (T785.setTop (mkF m 107 #[.val (.int p1), .val (.int p2), .val (.int p3), .val (.int p4), .val (.int p5), .val (.int p6), .val (.int (1 : Int32)), .val (.int (2 : Int32)), .val (.ref b692), .val (.ref b693), .val (.ref b695), .val (.ref b702), .val (.int (1 : Int32))] [])) _
        refine XS.iinc X785.here hx rfl (hb hby at_107) rfl (l' := #[.val (.int p1), .val (.int p2), .val (.int p3), .val (.int p4), .val (.int p5), .val (.int p6), .val (.int (1 : Int32)), .val (.int (2 : Int32)), .val (.ref b692), .val (.ref b693), .val (.ref b695), .val (.ref b702), .val (.int (2 : Int32))]) rfl ?_
        show Steps p.tables e below (T785.setTop (mkF m 110 #[.val (.int p1), .val (.int p2), .val (.int p3), .val (.int p4), .val (.int p5), .val (.int p6), .val (.int (1 : Int32)), .val (.int (2 : Int32)), .val (.ref b692), .val (.ref b693), .val (.ref b695), .val (.ref b702), .val (.int (2 : Int32))] [])) _
        refine XS.iload X785.here hx rfl (hb hby at_110) rfl ?_
        show Steps p.tables e below (T785.setTop (mkF m 112 #[.val (.int p1), .val (.int p2), .val (.int p3), .val (.int p4), .val (.int p5), .val (.int p6), .val (.int (1 : Int32)), .val (.int (2 : Int32)), .val (.ref b692), .val (.ref b693), .val (.ref b695), .val (.ref b702), .val (.int (2 : Int32))] [(.int (2 : Int32))])) _
        refine XS.iconst X785.here hx rfl (hb hby at_112) ?_
        show Steps p.tables e below (T785.setTop (mkF m 113 #[.val (.int p1), .val (.int p2), .val (.int p3), .val (.int p4), .val (.int p5), .val (.int p6), .val (.int (1 : Int32)), .val (.int (2 : Int32)), .val (.ref b692), .val (.ref b693), .val (.ref b695), .val (.ref b702), .val (.int (2 : Int32))] [(.int (2 : Int32)), (.int (2 : Int32))])) _
        refine XS.icmpNo X785.here hx rfl (hb hby at_113) rfl (flt Int32.lt_irrefl).1 ?_
        show Steps p.tables e below (T785.setTop (mkF m 116 #[.val (.int p1), .val (.int p2), .val (.int p3), .val (.int p4), .val (.int p5), .val (.int p6), .val (.int (1 : Int32)), .val (.int (2 : Int32)), .val (.ref b692), .val (.ref b693), .val (.ref b695), .val (.ref b702), .val (.int (2 : Int32))] [])) _
        refine XS.aload X785.here hx rfl (hb hby at_116) rfl rfl ?_
        show Steps p.tables e below (T785.setTop (mkF m 118 #[.val (.int p1), .val (.int p2), .val (.int p3), .val (.int p4), .val (.int p5), .val (.int p6), .val (.int (1 : Int32)), .val (.int (2 : Int32)), .val (.ref b692), .val (.ref b693), .val (.ref b695), .val (.ref b702), .val (.int (2 : Int32))] [(.ref b702)])) _
        refine XS.iload X785.here hx rfl (hb hby at_118) rfl ?_
        show Steps p.tables e below (T785.setTop (mkF m 120 #[.val (.int p1), .val (.int p2), .val (.int p3), .val (.int p4), .val (.int p5), .val (.int p6), .val (.int (1 : Int32)), .val (.int (2 : Int32)), .val (.ref b692), .val (.ref b693), .val (.ref b695), .val (.ref b702), .val (.int (2 : Int32))] [(.int p6), (.ref b702)])) _
        refine XS.iloadN X785.here hx rfl (hb hby at_120) rfl ?_
        exact k
      obtain ⟨cq800, kq800, q800a, q800b, q800c⟩ := isOf hZ e785 Q787
      obtain ⟨_, _, ⟨T800, L800, k800, n800⟩, -, X800, ⟨Lc800, hQ800, l800, y800, z800⟩, st800⟩ := X785.virtualBack hx (y := (⟨"com/example/axiomwright/axiomwright/Arcs", "add", "(II)V"⟩ : MethodName)) (z := (⟨"com/example/axiomwright/axiomwright/Arcs", "add", "(II)V"⟩ : MethodName)) hown (mvT hZ (hw _ (List.mem_of_getElem? (i := 30) rfl))) (mvT hZ (hw _ (List.mem_of_getElem? (i := 31) rfl))) (notFace_of_selects (args := #[]) (mvT hZ (hw _ (List.mem_of_getElem? (i := 33) rfl)))) (mvT hZ (hw _ (List.mem_of_getElem? (i := 33) rfl))) (mvT hZ (hw _ (List.mem_of_getElem? (i := 32) rfl))) (by decide) (backOf (W := 0) (rm6 l Z a0 hw [] b702 p6 p2 (1 : Int32) b1_711 b2_711 k1_711 k2_711 [(.int p4), (.int (0 : Int32)), (.int (0 : Int32)), (.int (0 : Int32)), (.int (0 : Int32)), (.int (0 : Int32)), (.int (0 : Int32)), (.int (0 : Int32)), (.int (0 : Int32)), (.int (0 : Int32)), (.int (0 : Int32)), (.int (0 : Int32)), (.int (0 : Int32)), (.int (0 : Int32)), (.int (0 : Int32)), (.int (0 : Int32))] [(.int p5), (.int (0 : Int32)), (.int (0 : Int32)), (.int (0 : Int32)), (.int (0 : Int32)), (.int (0 : Int32)), (.int (0 : Int32)), (.int (0 : Int32)), (.int (0 : Int32)), (.int (0 : Int32)), (.int (0 : Int32)), (.int (0 : Int32)), (.int (0 : Int32)), (.int (0 : Int32)), (.int (0 : Int32)), (.int (0 : Int32))] h785 n0 Z785 Q787 Q793 Q794 Q795 Q796 Q797 low702 low_b1_711 low_b2_711 ne_b702_b1_711 ne_b702_b2_711 pq711_0 (by decide) (by decide) (by decide) (Nat.le_of_ble_eq_true rfl) (Nat.le_of_ble_eq_true rfl)) hZ (hw _ (List.mem_of_getElem? (i := 34) rfl)) (hw _ (List.mem_of_getElem? (i := 3) rfl)) (by decide) (by decide)) q800a q800c (g := (mkF m 121 #[.val (.int p1), .val (.int p2), .val (.int p3), .val (.int p4), .val (.int p5), .val (.int p6), .val (.int (1 : Int32)), .val (.int (2 : Int32)), .val (.ref b692), .val (.ref b693), .val (.ref b695), .val (.ref b702), .val (.int (2 : Int32))] [(.int p2), (.int p6), (.ref b702)])) rfl (by rw [hml]; rfl) (Steps.refl _) (argsL := [(.int p6), (.int p2)]) (rest := []) (lenOf pd_0 rfl) rfl (by show 2 * 0 + _ ≤ _; exact Nat.le_of_eq rfl) (hb hby at_121) (fun _ _ => ⟨rfl, e785, (by decide : 8 + 0 ≤ _), (by decide : 76 + 0 ≤ _)⟩)
      dsimp only [Pt.U, Pt.locs, Pt.cells, Pt.slots] at X800 l800 y800 z800 st800 hQ800
      subst l800 y800 z800
      obtain ⟨rfl, Nq800, Kq800, U800_0, U800_1, U800_2, U800_3, U800_4⟩ := hQ800
      have Q801 : Exa Z T800.heap b695 "com/example/axiomwright/axiomwright/Arcs" := Q786.keep Kq800
      have Q802 : Exa Z T800.heap b702 "com/example/axiomwright/axiomwright/Arcs" := Q787.keep Kq800
      have Q803 : Fld Z T800.heap b695 "com/example/axiomwright/axiomwright/Arcs" "size" "I" (.int (1 : Int32)) := Q788.keep Kq800 (ninS ne702_b695 (ninS ne_b695_b1_711 (ninS ne_b695_b2_711 nin0)))
      have Q804 : Fld Z T800.heap b695 "com/example/axiomwright/axiomwright/Arcs" "from" "[I" (.ref b1_698) := Q789.keep Kq800 (ninS ne702_b695 (ninS ne_b695_b1_711 (ninS ne_b695_b2_711 nin0)))
      have Q805 : Fld Z T800.heap b695 "com/example/axiomwright/axiomwright/Arcs" "to" "[I" (.ref b2_698) := Q790.keep Kq800 (ninS ne702_b695 (ninS ne_b695_b1_711 (ninS ne_b695_b2_711 nin0)))
      have Q806 : Arv Z T800.heap b1_698 k1_698 .int (16 : Int32) [(.int p2), (.int (0 : Int32)), (.int (0 : Int32)), (.int (0 : Int32)), (.int (0 : Int32)), (.int (0 : Int32)), (.int (0 : Int32)), (.int (0 : Int32)), (.int (0 : Int32)), (.int (0 : Int32)), (.int (0 : Int32)), (.int (0 : Int32)), (.int (0 : Int32)), (.int (0 : Int32)), (.int (0 : Int32)), (.int (0 : Int32))] (.int (0 : Int32)) := Q791.keep Kq800 (ninS ne702_b1_698 (ninS ne_b1_698_b1_711 (ninS ne_b1_698_b2_711 nin0)))
      have Q807 : Arv Z T800.heap b2_698 k2_698 .int (16 : Int32) [(.int p3), (.int (0 : Int32)), (.int (0 : Int32)), (.int (0 : Int32)), (.int (0 : Int32)), (.int (0 : Int32)), (.int (0 : Int32)), (.int (0 : Int32)), (.int (0 : Int32)), (.int (0 : Int32)), (.int (0 : Int32)), (.int (0 : Int32)), (.int (0 : Int32)), (.int (0 : Int32)), (.int (0 : Int32)), (.int (0 : Int32))] (.int (0 : Int32)) := Q792.keep Kq800 (ninS ne702_b2_698 (ninS ne_b2_698_b1_711 (ninS ne_b2_698_b2_711 nin0)))
      have Q808 : Arv Z T800.heap b692 k692 .int (3 : Int32) [(.int p2), (.int p4), (.int (0 : Int32))] (.int (0 : Int32)) := Q798.keep Kq800 (ninS ne702_b692 (ninS ne_b692_b1_711 (ninS ne_b692_b2_711 nin0)))
      have Q809 : Arv Z T800.heap b693 k693 .int (3 : Int32) [(.int p3), (.int p5), (.int (0 : Int32))] (.int (0 : Int32)) := U785.keep Kq800 (ninS ne702_b693 (ninS ne_b693_b1_711 (ninS ne_b693_b2_711 nin0)))
      have U800_0n : Fld Z T800.heap b702 "com/example/axiomwright/axiomwright/Arcs" "size" "I" (.int (2 : Int32)) := U800_0
      have U800_3n : Arv Z T800.heap b1_711 k1_711 .int (16 : Int32) [(.int p4), (.int p6), (.int (0 : Int32)), (.int (0 : Int32)), (.int (0 : Int32)), (.int (0 : Int32)), (.int (0 : Int32)), (.int (0 : Int32)), (.int (0 : Int32)), (.int (0 : Int32)), (.int (0 : Int32)), (.int (0 : Int32)), (.int (0 : Int32)), (.int (0 : Int32)), (.int (0 : Int32)), (.int (0 : Int32))] (.int (0 : Int32)) := U800_3
      have U800_4n : Arv Z T800.heap b2_711 k2_711 .int (16 : Int32) [(.int p5), (.int p2), (.int (0 : Int32)), (.int (0 : Int32)), (.int (0 : Int32)), (.int (0 : Int32)), (.int (0 : Int32)), (.int (0 : Int32)), (.int (0 : Int32)), (.int (0 : Int32)), (.int (0 : Int32)), (.int (0 : Int32)), (.int (0 : Int32)), (.int (0 : Int32)), (.int (0 : Int32)), (.int (0 : Int32))] (.int (0 : Int32)) := U800_4
      have Z800 : n0 ≤ T800.heap.size := Nat.le_trans Z785 Kq800.1
      have K800 : Keep h0 T800.heap [] := K785.trans Kq800 (allS (Or.inr sz702) (allS (Or.inr sz_b1_711) (allS (Or.inr sz_b2_711) all0)))
      have N800 := Fr.app N785 Nq800
      refine own_go (A := _) (B := T800.setTop (mkF m 124 #[.val (.int p1), .val (.int p2), .val (.int p3), .val (.int p4), .val (.int p5), .val (.int p6), .val (.int (1 : Int32)), .val (.int (2 : Int32)), .val (.ref b692), .val (.ref b693), .val (.ref b695), .val (.ref b702), .val (.int (2 : Int32))] [])) (fun t k => st800.trans k) ?_
      refine own_go (A := T800.setTop (mkF m 124 #[.val (.int p1), .val (.int p2), .val (.int p3), .val (.int p4), .val (.int p5), .val (.int p6), .val (.int (1 : Int32)), .val (.int (2 : Int32)), .val (.ref b692), .val (.ref b693), .val (.ref b695), .val (.ref b702), .val (.int (2 : Int32))] [])) (B := T800.setTop (mkF m 130 #[.val (.int p1), .val (.int p2), .val (.int p3), .val (.int p4), .val (.int p5), .val (.int p6), .val (.int (1 : Int32)), .val (.int (2 : Int32)), .val (.ref b692), .val (.ref b693), .val (.ref b695), .val (.ref b702), .val (.int (2 : Int32))] [(.int p6), (.int (2 : Int32)), (.ref b692)])) (fun t k => ?_) ?_
      · show Steps p.tables e below (T800.setTop (mkF m 124 #[.val (.int p1), .val (.int p2), .val (.int p3), .val (.int p4), .val (.int p5), .val (.int p6), .val (.int (1 : Int32)), .val (.int (2 : Int32)), .val (.ref b692), .val (.ref b693), .val (.ref b695), .val (.ref b702), .val (.int (2 : Int32))] [])) _
        refine XS.aload X800.here hx rfl (hb hby at_124) rfl rfl ?_
        show Steps p.tables e below (T800.setTop (mkF m 126 #[.val (.int p1), .val (.int p2), .val (.int p3), .val (.int p4), .val (.int p5), .val (.int p6), .val (.int (1 : Int32)), .val (.int (2 : Int32)), .val (.ref b692), .val (.ref b693), .val (.ref b695), .val (.ref b702), .val (.int (2 : Int32))] [(.ref b692)])) _
        refine XS.iload X800.here hx rfl (hb hby at_126) rfl ?_
        show Steps p.tables e below (T800.setTop (mkF m 128 #[.val (.int p1), .val (.int p2), .val (.int p3), .val (.int p4), .val (.int p5), .val (.int p6), .val (.int (1 : Int32)), .val (.int (2 : Int32)), .val (.ref b692), .val (.ref b693), .val (.ref b695), .val (.ref b702), .val (.int (2 : Int32))] [(.int (2 : Int32)), (.ref b692)])) _
        refine XS.iload X800.here hx rfl (hb hby at_128) rfl ?_
        exact k
      obtain ⟨cl810, Ar810, q810, S810, M810, Ha810, G810⟩ := Q808
      have hin810 : ¬ ((2 : Int32) < 0 ∨ cl810.slots.size ≤ ((2 : Int32)).toNatClampNeg) := inb_of S810 ⟨by decide, by decide⟩
      obtain ⟨T810, h810, X810, e810, W810, st810⟩ := stI X800 hx hZ rfl Ar810 (j := (2 : Int32)) hin810 (g := (mkF m 130 #[.val (.int p1), .val (.int p2), .val (.int p3), .val (.int p4), .val (.int p5), .val (.int p6), .val (.int (1 : Int32)), .val (.int (2 : Int32)), .val (.ref b692), .val (.ref b693), .val (.ref b695), .val (.ref b702), .val (.int (2 : Int32))] [(.int p6), (.int (2 : Int32)), (.ref b692)])) rfl rfl (hb hby at_130)
      have Q811 : Exa Z h810 b695 "com/example/axiomwright/axiomwright/Arcs" := Q801.wr W810
      have Q812 : Exa Z h810 b702 "com/example/axiomwright/axiomwright/Arcs" := Q802.wr W810
      have Q813 : Fld Z h810 b695 "com/example/axiomwright/axiomwright/Arcs" "size" "I" (.int (1 : Int32)) := Q803.other W810 (Or.inl (Ne.symm ne695_b692))
      have Q814 : Fld Z h810 b695 "com/example/axiomwright/axiomwright/Arcs" "from" "[I" (.ref b1_698) := Q804.other W810 (Or.inl (Ne.symm ne695_b692))
      have Q815 : Fld Z h810 b695 "com/example/axiomwright/axiomwright/Arcs" "to" "[I" (.ref b2_698) := Q805.other W810 (Or.inl (Ne.symm ne695_b692))
      have Q816 : Arv Z h810 b1_698 k1_698 .int (16 : Int32) [(.int p2), (.int (0 : Int32)), (.int (0 : Int32)), (.int (0 : Int32)), (.int (0 : Int32)), (.int (0 : Int32)), (.int (0 : Int32)), (.int (0 : Int32)), (.int (0 : Int32)), (.int (0 : Int32)), (.int (0 : Int32)), (.int (0 : Int32)), (.int (0 : Int32)), (.int (0 : Int32)), (.int (0 : Int32)), (.int (0 : Int32))] (.int (0 : Int32)) := Q806.other W810 (Ne.symm ne_b692_b1_698)
      have Q817 : Arv Z h810 b2_698 k2_698 .int (16 : Int32) [(.int p3), (.int (0 : Int32)), (.int (0 : Int32)), (.int (0 : Int32)), (.int (0 : Int32)), (.int (0 : Int32)), (.int (0 : Int32)), (.int (0 : Int32)), (.int (0 : Int32)), (.int (0 : Int32)), (.int (0 : Int32)), (.int (0 : Int32)), (.int (0 : Int32)), (.int (0 : Int32)), (.int (0 : Int32)), (.int (0 : Int32))] (.int (0 : Int32)) := Q807.other W810 (Ne.symm ne_b692_b2_698)
      have Q818 : Arv Z h810 b693 k693 .int (3 : Int32) [(.int p3), (.int p5), (.int (0 : Int32))] (.int (0 : Int32)) := Q809.other W810 (Ne.symm ne693_b692)
      have Q819 : Fld Z h810 b702 "com/example/axiomwright/axiomwright/Arcs" "size" "I" (.int (2 : Int32)) := U800_0n.other W810 (Or.inl (Ne.symm ne702_b692))
      have Q820 : Fld Z h810 b702 "com/example/axiomwright/axiomwright/Arcs" "from" "[I" (.ref b1_711) := U800_1.other W810 (Or.inl (Ne.symm ne702_b692))
      have Q821 : Fld Z h810 b702 "com/example/axiomwright/axiomwright/Arcs" "to" "[I" (.ref b2_711) := U800_2.other W810 (Or.inl (Ne.symm ne702_b692))
      have Q822 : Arv Z h810 b1_711 k1_711 .int (16 : Int32) [(.int p4), (.int p6), (.int (0 : Int32)), (.int (0 : Int32)), (.int (0 : Int32)), (.int (0 : Int32)), (.int (0 : Int32)), (.int (0 : Int32)), (.int (0 : Int32)), (.int (0 : Int32)), (.int (0 : Int32)), (.int (0 : Int32)), (.int (0 : Int32)), (.int (0 : Int32)), (.int (0 : Int32)), (.int (0 : Int32))] (.int (0 : Int32)) := U800_3n.other W810 (Ne.symm ne_b692_b1_711)
      have Q823 : Arv Z h810 b2_711 k2_711 .int (16 : Int32) [(.int p5), (.int p2), (.int (0 : Int32)), (.int (0 : Int32)), (.int (0 : Int32)), (.int (0 : Int32)), (.int (0 : Int32)), (.int (0 : Int32)), (.int (0 : Int32)), (.int (0 : Int32)), (.int (0 : Int32)), (.int (0 : Int32)), (.int (0 : Int32)), (.int (0 : Int32)), (.int (0 : Int32)), (.int (0 : Int32))] (.int (0 : Int32)) := U800_4n.other W810 (Ne.symm ne_b692_b2_711)
      have U810 : Arv Z h810 b692 k692 .int (3 : Int32) [(.int p2), (.int p4), (.int p6)] (.int (0 : Int32)) := Arv.set Ar810 q810 S810 M810 Ha810 G810 rfl W810 2 rfl (Nat.le_of_ble_eq_true rfl)
      have Z810 : n0 ≤ h810.size := Nat.le_trans Z800 (Keep.of_wr W810).1
      have N810 := Fr.snoc X810 N800 low692
      have K810 := K800.wr W810 (Or.inr sz692)
      refine own_go st810 ?_
      refine own_go (A := T810.setTop (mkF m 131 #[.val (.int p1), .val (.int p2), .val (.int p3), .val (.int p4), .val (.int p5), .val (.int p6), .val (.int (1 : Int32)), .val (.int (2 : Int32)), .val (.ref b692), .val (.ref b693), .val (.ref b695), .val (.ref b702), .val (.int (2 : Int32))] [])) (B := T810.setTop (mkF m 136 #[.val (.int p1), .val (.int p2), .val (.int p3), .val (.int p4), .val (.int p5), .val (.int p6), .val (.int (1 : Int32)), .val (.int (2 : Int32)), .val (.ref b692), .val (.ref b693), .val (.ref b695), .val (.ref b702), .val (.int (2 : Int32))] [(.int p2), (.int (2 : Int32)), (.ref b693)])) (fun t k => ?_) ?_
      · show Steps p.tables e below (T810.setTop (mkF m 131 #[.val (.int p1), .val (.int p2), .val (.int p3), .val (.int p4), .val (.int p5), .val (.int p6), .val (.int (1 : Int32)), .val (.int (2 : Int32)), .val (.ref b692), .val (.ref b693), .val (.ref b695), .val (.ref b702), .val (.int (2 : Int32))] [])) _
        refine XS.aload X810.here hx rfl (hb hby at_131) rfl rfl ?_
        show Steps p.tables e below (T810.setTop (mkF m 133 #[.val (.int p1), .val (.int p2), .val (.int p3), .val (.int p4), .val (.int p5), .val (.int p6), .val (.int (1 : Int32)), .val (.int (2 : Int32)), .val (.ref b692), .val (.ref b693), .val (.ref b695), .val (.ref b702), .val (.int (2 : Int32))] [(.ref b693)])) _
        refine XS.iload X810.here hx rfl (hb hby at_133) rfl ?_
        show Steps p.tables e below (T810.setTop (mkF m 135 #[.val (.int p1), .val (.int p2), .val (.int p3), .val (.int p4), .val (.int p5), .val (.int p6), .val (.int (1 : Int32)), .val (.int (2 : Int32)), .val (.ref b692), .val (.ref b693), .val (.ref b695), .val (.ref b702), .val (.int (2 : Int32))] [(.int (2 : Int32)), (.ref b693)])) _
        refine XS.iloadN X810.here hx rfl (hb hby at_135) rfl ?_
        exact k
      obtain ⟨cl824, Ar824, q824, S824, M824, Ha824, G824⟩ := Q818
      have hin824 : ¬ ((2 : Int32) < 0 ∨ cl824.slots.size ≤ ((2 : Int32)).toNatClampNeg) := inb_of S824 ⟨by decide, by decide⟩
      obtain ⟨T824, h824, X824, e824, W824, st824⟩ := stI X810 hx hZ e810 Ar824 (j := (2 : Int32)) hin824 (g := (mkF m 136 #[.val (.int p1), .val (.int p2), .val (.int p3), .val (.int p4), .val (.int p5), .val (.int p6), .val (.int (1 : Int32)), .val (.int (2 : Int32)), .val (.ref b692), .val (.ref b693), .val (.ref b695), .val (.ref b702), .val (.int (2 : Int32))] [(.int p2), (.int (2 : Int32)), (.ref b693)])) rfl rfl (hb hby at_136)
      have Q825 : Exa Z h824 b695 "com/example/axiomwright/axiomwright/Arcs" := Q811.wr W824
      have Q826 : Exa Z h824 b702 "com/example/axiomwright/axiomwright/Arcs" := Q812.wr W824
      have Q827 : Fld Z h824 b695 "com/example/axiomwright/axiomwright/Arcs" "size" "I" (.int (1 : Int32)) := Q813.other W824 (Or.inl (Ne.symm ne695_b693))
      have Q828 : Fld Z h824 b695 "com/example/axiomwright/axiomwright/Arcs" "from" "[I" (.ref b1_698) := Q814.other W824 (Or.inl (Ne.symm ne695_b693))
      have Q829 : Fld Z h824 b695 "com/example/axiomwright/axiomwright/Arcs" "to" "[I" (.ref b2_698) := Q815.other W824 (Or.inl (Ne.symm ne695_b693))
      have Q830 : Arv Z h824 b1_698 k1_698 .int (16 : Int32) [(.int p2), (.int (0 : Int32)), (.int (0 : Int32)), (.int (0 : Int32)), (.int (0 : Int32)), (.int (0 : Int32)), (.int (0 : Int32)), (.int (0 : Int32)), (.int (0 : Int32)), (.int (0 : Int32)), (.int (0 : Int32)), (.int (0 : Int32)), (.int (0 : Int32)), (.int (0 : Int32)), (.int (0 : Int32)), (.int (0 : Int32))] (.int (0 : Int32)) := Q816.other W824 (Ne.symm ne_b693_b1_698)
      have Q831 : Arv Z h824 b2_698 k2_698 .int (16 : Int32) [(.int p3), (.int (0 : Int32)), (.int (0 : Int32)), (.int (0 : Int32)), (.int (0 : Int32)), (.int (0 : Int32)), (.int (0 : Int32)), (.int (0 : Int32)), (.int (0 : Int32)), (.int (0 : Int32)), (.int (0 : Int32)), (.int (0 : Int32)), (.int (0 : Int32)), (.int (0 : Int32)), (.int (0 : Int32)), (.int (0 : Int32))] (.int (0 : Int32)) := Q817.other W824 (Ne.symm ne_b693_b2_698)
      have Q832 : Fld Z h824 b702 "com/example/axiomwright/axiomwright/Arcs" "size" "I" (.int (2 : Int32)) := Q819.other W824 (Or.inl (Ne.symm ne702_b693))
      have Q833 : Fld Z h824 b702 "com/example/axiomwright/axiomwright/Arcs" "from" "[I" (.ref b1_711) := Q820.other W824 (Or.inl (Ne.symm ne702_b693))
      have Q834 : Fld Z h824 b702 "com/example/axiomwright/axiomwright/Arcs" "to" "[I" (.ref b2_711) := Q821.other W824 (Or.inl (Ne.symm ne702_b693))
      have Q835 : Arv Z h824 b1_711 k1_711 .int (16 : Int32) [(.int p4), (.int p6), (.int (0 : Int32)), (.int (0 : Int32)), (.int (0 : Int32)), (.int (0 : Int32)), (.int (0 : Int32)), (.int (0 : Int32)), (.int (0 : Int32)), (.int (0 : Int32)), (.int (0 : Int32)), (.int (0 : Int32)), (.int (0 : Int32)), (.int (0 : Int32)), (.int (0 : Int32)), (.int (0 : Int32))] (.int (0 : Int32)) := Q822.other W824 (Ne.symm ne_b693_b1_711)
      have Q836 : Arv Z h824 b2_711 k2_711 .int (16 : Int32) [(.int p5), (.int p2), (.int (0 : Int32)), (.int (0 : Int32)), (.int (0 : Int32)), (.int (0 : Int32)), (.int (0 : Int32)), (.int (0 : Int32)), (.int (0 : Int32)), (.int (0 : Int32)), (.int (0 : Int32)), (.int (0 : Int32)), (.int (0 : Int32)), (.int (0 : Int32)), (.int (0 : Int32)), (.int (0 : Int32))] (.int (0 : Int32)) := Q823.other W824 (Ne.symm ne_b693_b2_711)
      have Q837 : Arv Z h824 b692 k692 .int (3 : Int32) [(.int p2), (.int p4), (.int p6)] (.int (0 : Int32)) := U810.other W824 ne693_b692
      have U824 : Arv Z h824 b693 k693 .int (3 : Int32) [(.int p3), (.int p5), (.int p2)] (.int (0 : Int32)) := Arv.set Ar824 q824 S824 M824 Ha824 G824 rfl W824 2 rfl (Nat.le_of_ble_eq_true rfl)
      have Z824 : n0 ≤ h824.size := Nat.le_trans Z810 (Keep.of_wr W824).1
      have N824 := Fr.snoc X824 N810 low693
      have K824 := K810.wr W824 (Or.inr sz693)
      refine own_go st824 ?_
      refine own_go (A := T824.setTop (mkF m 137 #[.val (.int p1), .val (.int p2), .val (.int p3), .val (.int p4), .val (.int p5), .val (.int p6), .val (.int (1 : Int32)), .val (.int (2 : Int32)), .val (.ref b692), .val (.ref b693), .val (.ref b695), .val (.ref b702), .val (.int (2 : Int32))] [])) (B := T824.setTop (mkF m 144 #[.val (.int p1), .val (.int p2), .val (.int p3), .val (.int p4), .val (.int p5), .val (.int p6), .val (.int (1 : Int32)), .val (.int (2 : Int32)), .val (.ref b692), .val (.ref b693), .val (.ref b695), .val (.ref b702), .val (.int (3 : Int32))] [(.ref b702), (.ref b695)])) (fun t k => ?_) ?_
      · show Steps p.tables e below (T824.setTop (mkF m 137 #[.val (.int p1), .val (.int p2), .val (.int p3), .val (.int p4), .val (.int p5), .val (.int p6), .val (.int (1 : Int32)), .val (.int (2 : Int32)), .val (.ref b692), .val (.ref b693), .val (.ref b695), .val (.ref b702), .val (.int (2 : Int32))] [])) _
        refine XS.iinc X824.here hx rfl (hb hby at_137) rfl (l' := #[.val (.int p1), .val (.int p2), .val (.int p3), .val (.int p4), .val (.int p5), .val (.int p6), .val (.int (1 : Int32)), .val (.int (2 : Int32)), .val (.ref b692), .val (.ref b693), .val (.ref b695), .val (.ref b702), .val (.int (3 : Int32))]) rfl ?_
        show Steps p.tables e below (T824.setTop (mkF m 140 #[.val (.int p1), .val (.int p2), .val (.int p3), .val (.int p4), .val (.int p5), .val (.int p6), .val (.int (1 : Int32)), .val (.int (2 : Int32)), .val (.ref b692), .val (.ref b693), .val (.ref b695), .val (.ref b702), .val (.int (3 : Int32))] [])) _
        refine XS.aload X824.here hx rfl (hb hby at_140) rfl rfl ?_
        show Steps p.tables e below (T824.setTop (mkF m 142 #[.val (.int p1), .val (.int p2), .val (.int p3), .val (.int p4), .val (.int p5), .val (.int p6), .val (.int (1 : Int32)), .val (.int (2 : Int32)), .val (.ref b692), .val (.ref b693), .val (.ref b695), .val (.ref b702), .val (.int (3 : Int32))] [(.ref b695)])) _
        refine XS.aload X824.here hx rfl (hb hby at_142) rfl rfl ?_
        exact k
      obtain ⟨cq838, kq838, q838a, q838b, q838c⟩ := isOf hZ e824 Q825
      obtain ⟨_, _, ⟨T838, L838, k838, n838⟩, -, X838, ⟨Lc838, hQ838, l838, y838, z838⟩, st838⟩ := X824.virtualBack hx (y := (⟨"com/example/axiomwright/axiomwright/Arcs", "addAll", "(Lcom/example/axiomwright/axiomwright/Arcs;)V"⟩ : MethodName)) (z := (⟨"com/example/axiomwright/axiomwright/Arcs", "addAll", "(Lcom/example/axiomwright/axiomwright/Arcs;)V"⟩ : MethodName)) hown (mvT hZ (hw _ (List.mem_of_getElem? (i := 14) rfl))) (mvT hZ (hw _ (List.mem_of_getElem? (i := 15) rfl))) (notFace_of_selects (args := #[]) (mvT hZ (hw _ (List.mem_of_getElem? (i := 17) rfl)))) (mvT hZ (hw _ (List.mem_of_getElem? (i := 17) rfl))) (mvT hZ (hw _ (List.mem_of_getElem? (i := 16) rfl))) (by decide) (backOf (W := 0) (rm3_1_2 l Z a0 hw [] b695 b702 b1_698 b2_698 b1_711 b2_711 k1_698 k2_698 k1_711 k2_711 p2 (0 : Int32) (0 : Int32) (0 : Int32) (0 : Int32) (0 : Int32) (0 : Int32) (0 : Int32) (0 : Int32) (0 : Int32) (0 : Int32) (0 : Int32) (0 : Int32) (0 : Int32) (0 : Int32) (0 : Int32) p3 (0 : Int32) (0 : Int32) (0 : Int32) (0 : Int32) (0 : Int32) (0 : Int32) (0 : Int32) (0 : Int32) (0 : Int32) (0 : Int32) (0 : Int32) (0 : Int32) (0 : Int32) (0 : Int32) (0 : Int32) p4 p6 (0 : Int32) (0 : Int32) (0 : Int32) (0 : Int32) (0 : Int32) (0 : Int32) (0 : Int32) (0 : Int32) (0 : Int32) (0 : Int32) (0 : Int32) (0 : Int32) (0 : Int32) (0 : Int32) p5 p2 (0 : Int32) (0 : Int32) (0 : Int32) (0 : Int32) (0 : Int32) (0 : Int32) (0 : Int32) (0 : Int32) (0 : Int32) (0 : Int32) (0 : Int32) (0 : Int32) (0 : Int32) (0 : Int32) h824 n0 Z824 Q825 Q827 Q828 Q829 Q830 Q831 Q832 Q833 Q834 Q835 Q836 low695 low_b1_698 low_b2_698 ne_b695_b1_698 ne_b695_b2_698 pq698_0 (Ne.symm ne702_b695) (Ne.symm ne702_b1_698) (Ne.symm ne702_b2_698) (Ne.symm ne_b695_b1_711) (Ne.symm ne_b1_698_b1_711) (Ne.symm ne_b2_698_b1_711) (Ne.symm ne_b695_b2_711) (Ne.symm ne_b1_698_b2_711) (Ne.symm ne_b2_698_b2_711)) hZ (hw _ (List.mem_of_getElem? (i := 18) rfl)) (hw _ (List.mem_of_getElem? (i := 3) rfl)) (by decide) (by decide)) q838a q838c (g := (mkF m 144 #[.val (.int p1), .val (.int p2), .val (.int p3), .val (.int p4), .val (.int p5), .val (.int p6), .val (.int (1 : Int32)), .val (.int (2 : Int32)), .val (.ref b692), .val (.ref b693), .val (.ref b695), .val (.ref b702), .val (.int (3 : Int32))] [(.ref b702), (.ref b695)])) rfl (by rw [hml]; rfl) (Steps.refl _) (argsL := [(.ref b702)]) (rest := []) (lenOf pd_3 rfl) rfl (by show 2 * 0 + _ ≤ _; exact Nat.le_of_eq rfl) (hb hby at_144) (fun _ _ => ⟨rfl, e824, (by decide : 8 + 0 ≤ _), (by decide : 76 + 0 ≤ _)⟩)
      dsimp only [Pt.U, Pt.locs, Pt.cells, Pt.slots] at X838 l838 y838 z838 st838 hQ838
      subst l838 y838 z838
      obtain ⟨rfl, Nq838, Kq838, U838_0, U838_1, U838_2, U838_3, U838_4⟩ := hQ838
      have Q839 : Exa Z T838.heap b695 "com/example/axiomwright/axiomwright/Arcs" := Q825.keep Kq838
      have Q840 : Exa Z T838.heap b702 "com/example/axiomwright/axiomwright/Arcs" := Q826.keep Kq838
      have Q841 : Fld Z T838.heap b702 "com/example/axiomwright/axiomwright/Arcs" "size" "I" (.int (2 : Int32)) := Q832.keep Kq838 (ninS (Ne.symm ne702_b695) (ninS (Ne.symm ne702_b1_698) (ninS (Ne.symm ne702_b2_698) nin0)))
      have Q842 : Fld Z T838.heap b702 "com/example/axiomwright/axiomwright/Arcs" "from" "[I" (.ref b1_711) := Q833.keep Kq838 (ninS (Ne.symm ne702_b695) (ninS (Ne.symm ne702_b1_698) (ninS (Ne.symm ne702_b2_698) nin0)))
      have Q843 : Fld Z T838.heap b702 "com/example/axiomwright/axiomwright/Arcs" "to" "[I" (.ref b2_711) := Q834.keep Kq838 (ninS (Ne.symm ne702_b695) (ninS (Ne.symm ne702_b1_698) (ninS (Ne.symm ne702_b2_698) nin0)))
      have Q844 : Arv Z T838.heap b1_711 k1_711 .int (16 : Int32) [(.int p4), (.int p6), (.int (0 : Int32)), (.int (0 : Int32)), (.int (0 : Int32)), (.int (0 : Int32)), (.int (0 : Int32)), (.int (0 : Int32)), (.int (0 : Int32)), (.int (0 : Int32)), (.int (0 : Int32)), (.int (0 : Int32)), (.int (0 : Int32)), (.int (0 : Int32)), (.int (0 : Int32)), (.int (0 : Int32))] (.int (0 : Int32)) := Q835.keep Kq838 (ninS (Ne.symm ne_b695_b1_711) (ninS (Ne.symm ne_b1_698_b1_711) (ninS (Ne.symm ne_b2_698_b1_711) nin0)))
      have Q845 : Arv Z T838.heap b2_711 k2_711 .int (16 : Int32) [(.int p5), (.int p2), (.int (0 : Int32)), (.int (0 : Int32)), (.int (0 : Int32)), (.int (0 : Int32)), (.int (0 : Int32)), (.int (0 : Int32)), (.int (0 : Int32)), (.int (0 : Int32)), (.int (0 : Int32)), (.int (0 : Int32)), (.int (0 : Int32)), (.int (0 : Int32)), (.int (0 : Int32)), (.int (0 : Int32))] (.int (0 : Int32)) := Q836.keep Kq838 (ninS (Ne.symm ne_b695_b2_711) (ninS (Ne.symm ne_b1_698_b2_711) (ninS (Ne.symm ne_b2_698_b2_711) nin0)))
      have Q846 : Arv Z T838.heap b692 k692 .int (3 : Int32) [(.int p2), (.int p4), (.int p6)] (.int (0 : Int32)) := Q837.keep Kq838 (ninS ne695_b692 (ninS ne_b692_b1_698 (ninS ne_b692_b2_698 nin0)))
      have Q847 : Arv Z T838.heap b693 k693 .int (3 : Int32) [(.int p3), (.int p5), (.int p2)] (.int (0 : Int32)) := U824.keep Kq838 (ninS ne695_b693 (ninS ne_b693_b1_698 (ninS ne_b693_b2_698 nin0)))
      have Z838 : n0 ≤ T838.heap.size := Nat.le_trans Z824 Kq838.1
      have K838 : Keep h0 T838.heap [] := K824.trans Kq838 (allS (Or.inr sz695) (allS (Or.inr sz_b1_698) (allS (Or.inr sz_b2_698) all0)))
      have N838 := Fr.app N824 Nq838
      refine own_go (A := _) (B := T838.setTop (mkF m 147 #[.val (.int p1), .val (.int p2), .val (.int p3), .val (.int p4), .val (.int p5), .val (.int p6), .val (.int (1 : Int32)), .val (.int (2 : Int32)), .val (.ref b692), .val (.ref b693), .val (.ref b695), .val (.ref b702), .val (.int (3 : Int32))] [])) (fun t k => st838.trans k) ?_
      refine own_go (A := T838.setTop (mkF m 147 #[.val (.int p1), .val (.int p2), .val (.int p3), .val (.int p4), .val (.int p5), .val (.int p6), .val (.int (1 : Int32)), .val (.int (2 : Int32)), .val (.ref b692), .val (.ref b693), .val (.ref b695), .val (.ref b702), .val (.int (3 : Int32))] [])) (B := T838.setTop (mkF m 149 #[.val (.int p1), .val (.int p2), .val (.int p3), .val (.int p4), .val (.int p5), .val (.int p6), .val (.int (1 : Int32)), .val (.int (2 : Int32)), .val (.ref b692), .val (.ref b693), .val (.ref b695), .val (.ref b702), .val (.int (3 : Int32))] [(.ref b695)])) (fun t k => ?_) ?_
      · show Steps p.tables e below (T838.setTop (mkF m 147 #[.val (.int p1), .val (.int p2), .val (.int p3), .val (.int p4), .val (.int p5), .val (.int p6), .val (.int (1 : Int32)), .val (.int (2 : Int32)), .val (.ref b692), .val (.ref b693), .val (.ref b695), .val (.ref b702), .val (.int (3 : Int32))] [])) _
        refine XS.aload X838.here hx rfl (hb hby at_147) rfl rfl ?_
        exact k
      obtain ⟨cq848, kq848, q848a, q848b, q848c⟩ := isOf hZ rfl Q839
      obtain ⟨_, _, ⟨T848, L848, k848, n848⟩, -, X848, ⟨Lc848, hQ848, l848, y848, z848⟩, st848⟩ := X838.virtualBack hx (y := (⟨"com/example/axiomwright/axiomwright/Arcs", "size", "()I"⟩ : MethodName)) (z := (⟨"com/example/axiomwright/axiomwright/Arcs", "size", "()I"⟩ : MethodName)) hown (mvT hZ (hw _ (List.mem_of_getElem? (i := 21) rfl))) (mvT hZ (hw _ (List.mem_of_getElem? (i := 22) rfl))) (notFace_of_selects (args := #[]) (mvT hZ (hw _ (List.mem_of_getElem? (i := 24) rfl)))) (mvT hZ (hw _ (List.mem_of_getElem? (i := 24) rfl))) (mvT hZ (hw _ (List.mem_of_getElem? (i := 23) rfl))) (by decide) (backOf (W := 0) (rm4 l Z a0 hw [] b695 (3 : Int32) T838.heap n0 Z838 U838_0) hZ (hw _ (List.mem_of_getElem? (i := 25) rfl)) (hw _ (List.mem_of_getElem? (i := 3) rfl)) (by decide) (by decide)) q848a q848c (g := (mkF m 149 #[.val (.int p1), .val (.int p2), .val (.int p3), .val (.int p4), .val (.int p5), .val (.int p6), .val (.int (1 : Int32)), .val (.int (2 : Int32)), .val (.ref b692), .val (.ref b693), .val (.ref b695), .val (.ref b702), .val (.int (3 : Int32))] [(.ref b695)])) rfl (by rw [hml]; rfl) (Steps.refl _) (argsL := []) (rest := []) (lenOf pd_4 rfl) rfl (by show 2 * 0 + _ ≤ _; exact Nat.le_of_eq rfl) (hb hby at_149) (fun _ _ => ⟨rfl, rfl, (by decide : 8 + 0 ≤ _), (by decide : 76 + 0 ≤ _)⟩)
      dsimp only [Pt.U, Pt.locs, Pt.cells, Pt.slots] at X848 l848 y848 z848 st848 hQ848
      subst l848 y848 z848
      obtain ⟨rfl, Nq848, e848⟩ := hQ848
      have N848 := Fr.app N838 Nq848
      refine own_go (A := _) (B := T848.setTop (mkF m 152 #[.val (.int p1), .val (.int p2), .val (.int p3), .val (.int p4), .val (.int p5), .val (.int p6), .val (.int (1 : Int32)), .val (.int (2 : Int32)), .val (.ref b692), .val (.ref b693), .val (.ref b695), .val (.ref b702), .val (.int (3 : Int32))] [(.int (3 : Int32))])) (fun t k => st848.trans k) ?_
      refine own_go (A := T848.setTop (mkF m 152 #[.val (.int p1), .val (.int p2), .val (.int p3), .val (.int p4), .val (.int p5), .val (.int p6), .val (.int (1 : Int32)), .val (.int (2 : Int32)), .val (.ref b692), .val (.ref b693), .val (.ref b695), .val (.ref b702), .val (.int (3 : Int32))] [(.int (3 : Int32))])) (B := T848.setTop (mkF m 161 #[.val (.int p1), .val (.int p2), .val (.int p3), .val (.int p4), .val (.int p5), .val (.int p6), .val (.int (1 : Int32)), .val (.int (2 : Int32)), .val (.ref b692), .val (.ref b693), .val (.ref b695), .val (.ref b702), .val (.int (3 : Int32))] [(.ref b702)])) (fun t k => ?_) ?_
      · show Steps p.tables e below (T848.setTop (mkF m 152 #[.val (.int p1), .val (.int p2), .val (.int p3), .val (.int p4), .val (.int p5), .val (.int p6), .val (.int (1 : Int32)), .val (.int (2 : Int32)), .val (.ref b692), .val (.ref b693), .val (.ref b695), .val (.ref b702), .val (.int (3 : Int32))] [(.int (3 : Int32))])) _
        refine XS.iload X848.here hx rfl (hb hby at_152) rfl ?_
        show Steps p.tables e below (T848.setTop (mkF m 154 #[.val (.int p1), .val (.int p2), .val (.int p3), .val (.int p4), .val (.int p5), .val (.int p6), .val (.int (1 : Int32)), .val (.int (2 : Int32)), .val (.ref b692), .val (.ref b693), .val (.ref b695), .val (.ref b702), .val (.int (3 : Int32))] [(.int (3 : Int32)), (.int (3 : Int32))])) _
        refine XS.icmpYes X848.here hx rfl (pc0 := 154) (pc' := 159) rfl (hb hby at_154) rfl (teq (rfl : (3 : Int32) = (3 : Int32))).1 (by decide) (by decide) ?_
        show Steps p.tables e below (T848.setTop (mkF m 159 #[.val (.int p1), .val (.int p2), .val (.int p3), .val (.int p4), .val (.int p5), .val (.int p6), .val (.int (1 : Int32)), .val (.int (2 : Int32)), .val (.ref b692), .val (.ref b693), .val (.ref b695), .val (.ref b702), .val (.int (3 : Int32))] [])) _
        refine XS.aload X848.here hx rfl (hb hby at_159) rfl rfl ?_
        exact k
      obtain ⟨cq850, kq850, q850a, q850b, q850c⟩ := isOf hZ e848 Q840
      obtain ⟨_, _, ⟨T850, L850, k850, n850⟩, -, X850, ⟨Lc850, hQ850, l850, y850, z850⟩, st850⟩ := X848.virtualBack hx (y := (⟨"com/example/axiomwright/axiomwright/Arcs", "size", "()I"⟩ : MethodName)) (z := (⟨"com/example/axiomwright/axiomwright/Arcs", "size", "()I"⟩ : MethodName)) hown (mvT hZ (hw _ (List.mem_of_getElem? (i := 21) rfl))) (mvT hZ (hw _ (List.mem_of_getElem? (i := 22) rfl))) (notFace_of_selects (args := #[]) (mvT hZ (hw _ (List.mem_of_getElem? (i := 24) rfl)))) (mvT hZ (hw _ (List.mem_of_getElem? (i := 24) rfl))) (mvT hZ (hw _ (List.mem_of_getElem? (i := 23) rfl))) (by decide) (backOf (W := 0) (rm4 l Z a0 hw [] b702 (2 : Int32) T838.heap n0 Z838 Q841) hZ (hw _ (List.mem_of_getElem? (i := 25) rfl)) (hw _ (List.mem_of_getElem? (i := 3) rfl)) (by decide) (by decide)) q850a q850c (g := (mkF m 161 #[.val (.int p1), .val (.int p2), .val (.int p3), .val (.int p4), .val (.int p5), .val (.int p6), .val (.int (1 : Int32)), .val (.int (2 : Int32)), .val (.ref b692), .val (.ref b693), .val (.ref b695), .val (.ref b702), .val (.int (3 : Int32))] [(.ref b702)])) rfl (by rw [hml]; rfl) (Steps.refl _) (argsL := []) (rest := []) (lenOf pd_4 rfl) rfl (by show 2 * 0 + _ ≤ _; exact Nat.le_of_eq rfl) (hb hby at_161) (fun _ _ => ⟨rfl, e848, (by decide : 8 + 0 ≤ _), (by decide : 76 + 0 ≤ _)⟩)
      dsimp only [Pt.U, Pt.locs, Pt.cells, Pt.slots] at X850 l850 y850 z850 st850 hQ850
      subst l850 y850 z850
      obtain ⟨rfl, Nq850, e850⟩ := hQ850
      have N850 := Fr.app N848 Nq850
      refine own_go (A := _) (B := T850.setTop (mkF m 164 #[.val (.int p1), .val (.int p2), .val (.int p3), .val (.int p4), .val (.int p5), .val (.int p6), .val (.int (1 : Int32)), .val (.int (2 : Int32)), .val (.ref b692), .val (.ref b693), .val (.ref b695), .val (.ref b702), .val (.int (3 : Int32))] [(.int (2 : Int32))])) (fun t k => st850.trans k) ?_
      refine own_go (A := T850.setTop (mkF m 164 #[.val (.int p1), .val (.int p2), .val (.int p3), .val (.int p4), .val (.int p5), .val (.int p6), .val (.int (1 : Int32)), .val (.int (2 : Int32)), .val (.ref b692), .val (.ref b693), .val (.ref b695), .val (.ref b702), .val (.int (3 : Int32))] [(.int (2 : Int32))])) (B := T850.setTop (mkF m 180 #[.val (.int p1), .val (.int p2), .val (.int p3), .val (.int p4), .val (.int p5), .val (.int p6), .val (.int (1 : Int32)), .val (.int (2 : Int32)), .val (.ref b692), .val (.ref b693), .val (.ref b695), .val (.ref b702), .val (.int (3 : Int32))] [(.ref b693), (.ref b692), (.int (3 : Int32)), (.int (0 : Int32)), (.ref b695)])) (fun t k => ?_) ?_
      · show Steps p.tables e below (T850.setTop (mkF m 164 #[.val (.int p1), .val (.int p2), .val (.int p3), .val (.int p4), .val (.int p5), .val (.int p6), .val (.int (1 : Int32)), .val (.int (2 : Int32)), .val (.ref b692), .val (.ref b693), .val (.ref b695), .val (.ref b702), .val (.int (3 : Int32))] [(.int (2 : Int32))])) _
        refine XS.iload X850.here hx rfl (hb hby at_164) rfl ?_
        show Steps p.tables e below (T850.setTop (mkF m 166 #[.val (.int p1), .val (.int p2), .val (.int p3), .val (.int p4), .val (.int p5), .val (.int p6), .val (.int (1 : Int32)), .val (.int (2 : Int32)), .val (.ref b692), .val (.ref b693), .val (.ref b695), .val (.ref b702), .val (.int (3 : Int32))] [(.int (2 : Int32)), (.int (2 : Int32))])) _
        refine XS.icmpYes X850.here hx rfl (pc0 := 166) (pc' := 171) rfl (hb hby at_166) rfl (teq (rfl : (2 : Int32) = (2 : Int32))).1 (by decide) (by decide) ?_
        show Steps p.tables e below (T850.setTop (mkF m 171 #[.val (.int p1), .val (.int p2), .val (.int p3), .val (.int p4), .val (.int p5), .val (.int p6), .val (.int (1 : Int32)), .val (.int (2 : Int32)), .val (.ref b692), .val (.ref b693), .val (.ref b695), .val (.ref b702), .val (.int (3 : Int32))] [])) _
        refine XS.aload X850.here hx rfl (hb hby at_171) rfl rfl ?_
        show Steps p.tables e below (T850.setTop (mkF m 173 #[.val (.int p1), .val (.int p2), .val (.int p3), .val (.int p4), .val (.int p5), .val (.int p6), .val (.int (1 : Int32)), .val (.int (2 : Int32)), .val (.ref b692), .val (.ref b693), .val (.ref b695), .val (.ref b702), .val (.int (3 : Int32))] [(.ref b695)])) _
        refine XS.iconst X850.here hx rfl (hb hby at_173) ?_
        show Steps p.tables e below (T850.setTop (mkF m 174 #[.val (.int p1), .val (.int p2), .val (.int p3), .val (.int p4), .val (.int p5), .val (.int p6), .val (.int (1 : Int32)), .val (.int (2 : Int32)), .val (.ref b692), .val (.ref b693), .val (.ref b695), .val (.ref b702), .val (.int (3 : Int32))] [(.int (0 : Int32)), (.ref b695)])) _
        refine XS.iload X850.here hx rfl (hb hby at_174) rfl ?_
        show Steps p.tables e below (T850.setTop (mkF m 176 #[.val (.int p1), .val (.int p2), .val (.int p3), .val (.int p4), .val (.int p5), .val (.int p6), .val (.int (1 : Int32)), .val (.int (2 : Int32)), .val (.ref b692), .val (.ref b693), .val (.ref b695), .val (.ref b702), .val (.int (3 : Int32))] [(.int (3 : Int32)), (.int (0 : Int32)), (.ref b695)])) _
        refine XS.aload X850.here hx rfl (hb hby at_176) rfl rfl ?_
        show Steps p.tables e below (T850.setTop (mkF m 178 #[.val (.int p1), .val (.int p2), .val (.int p3), .val (.int p4), .val (.int p5), .val (.int p6), .val (.int (1 : Int32)), .val (.int (2 : Int32)), .val (.ref b692), .val (.ref b693), .val (.ref b695), .val (.ref b702), .val (.int (3 : Int32))] [(.ref b692), (.int (3 : Int32)), (.int (0 : Int32)), (.ref b695)])) _
        refine XS.aload X850.here hx rfl (hb hby at_178) rfl rfl ?_
        exact k
      obtain ⟨_, _, ⟨T852, L852, k852, n852⟩, -, X852, ⟨Lc852, hQ852, l852, y852, z852⟩, st852⟩ := Jvm.LawKit.callS X850 hx (y := (⟨"com/example/axiomwright/axiomwright/ArcsAddAllPinLaw", "at", "(Lcom/example/axiomwright/axiomwright/Arcs;II[I[I)Z"⟩ : MethodName)) hown (mvT hZ (hw _ (List.mem_of_getElem? (i := 26) rfl))) (mvT hZ (hw _ (List.mem_of_getElem? (i := 27) rfl))) (mvT hZ (hw _ (List.mem_of_getElem? (i := 28) rfl))) (mvT hZ (hw _ (List.mem_of_getElem? (i := 29) rfl))) (by decide) (backOf (W := 0) (rm5_0_3 l Z a0 hw [] b695 b692 b693 b1_698 b2_698 k1_698 k2_698 k692 k693 p2 p4 p6 (0 : Int32) (0 : Int32) (0 : Int32) (0 : Int32) (0 : Int32) (0 : Int32) (0 : Int32) (0 : Int32) (0 : Int32) (0 : Int32) (0 : Int32) (0 : Int32) (0 : Int32) p3 p5 p2 (0 : Int32) (0 : Int32) (0 : Int32) (0 : Int32) (0 : Int32) (0 : Int32) (0 : Int32) (0 : Int32) (0 : Int32) (0 : Int32) (0 : Int32) (0 : Int32) (0 : Int32) p2 p4 p6 p3 p5 p2 T838.heap n0 Z838 Q839 U838_1 U838_2 U838_3 U838_4 Q846 Q847) hZ (hw _ (List.mem_of_getElem? (i := 29) rfl)) (hw _ (List.mem_of_getElem? (i := 28) rfl)) (by decide) (by decide)) (g := (mkF m 180 #[.val (.int p1), .val (.int p2), .val (.int p3), .val (.int p4), .val (.int p5), .val (.int p6), .val (.int (1 : Int32)), .val (.int (2 : Int32)), .val (.ref b692), .val (.ref b693), .val (.ref b695), .val (.ref b702), .val (.int (3 : Int32))] [(.ref b693), (.ref b692), (.int (3 : Int32)), (.int (0 : Int32)), (.ref b695)])) rfl (by rw [hml]; rfl) (argsL := [(.ref b695), (.int (0 : Int32)), (.int (3 : Int32)), (.ref b692), (.ref b693)]) (rest := []) (lenOf pd_5 rfl) rfl (by show 2 * 0 + _ ≤ _; exact Nat.le_of_eq rfl) (hb hby at_180) (fun _ _ => ⟨rfl, e850, (by decide : 8 + 0 ≤ _), (by decide : 76 + 0 ≤ _)⟩)
      dsimp only [Pt.U, Pt.locs, Pt.cells, Pt.slots] at X852 l852 y852 z852 st852 hQ852
      subst l852 y852 z852
      obtain ⟨rfl, Nq852, e852⟩ := hQ852
      have N852 := Fr.app N850 Nq852
      refine own_go (A := _) (B := T852.setTop (mkF m 183 #[.val (.int p1), .val (.int p2), .val (.int p3), .val (.int p4), .val (.int p5), .val (.int p6), .val (.int (1 : Int32)), .val (.int (2 : Int32)), .val (.ref b692), .val (.ref b693), .val (.ref b695), .val (.ref b702), .val (.int (3 : Int32))] [(.int (frm5_0_3 p2 p3 p2 p3))])) st852 ?_
      have hc183_853 : ¬ ((frm5_0_3 p2 p3 p2 p3) = (0 : Int32)) := by simp [frm5_0_3]
      refine own_go (A := T852.setTop (mkF m 183 #[.val (.int p1), .val (.int p2), .val (.int p3), .val (.int p4), .val (.int p5), .val (.int p6), .val (.int (1 : Int32)), .val (.int (2 : Int32)), .val (.ref b692), .val (.ref b693), .val (.ref b695), .val (.ref b702), .val (.int (3 : Int32))] [(.int (frm5_0_3 p2 p3 p2 p3))])) (B := T852.setTop (mkF m 195 #[.val (.int p1), .val (.int p2), .val (.int p3), .val (.int p4), .val (.int p5), .val (.int p6), .val (.int (1 : Int32)), .val (.int (2 : Int32)), .val (.ref b692), .val (.ref b693), .val (.ref b695), .val (.ref b702), .val (.int (3 : Int32))] [(.ref b693), (.ref b692), (.int (3 : Int32)), (.int (1 : Int32)), (.ref b695)])) (fun t k => ?_) ?_
      · show Steps p.tables e below (T852.setTop (mkF m 183 #[.val (.int p1), .val (.int p2), .val (.int p3), .val (.int p4), .val (.int p5), .val (.int p6), .val (.int (1 : Int32)), .val (.int (2 : Int32)), .val (.ref b692), .val (.ref b693), .val (.ref b695), .val (.ref b702), .val (.int (3 : Int32))] [(.int (frm5_0_3 p2 p3 p2 p3))])) _
        refine XS.ifNo X852.here hx rfl (hb hby at_183) rfl ((if0 _ _).trans (feq hc183_853).1) ?_
        show Steps p.tables e below (T852.setTop (mkF m 186 #[.val (.int p1), .val (.int p2), .val (.int p3), .val (.int p4), .val (.int p5), .val (.int p6), .val (.int (1 : Int32)), .val (.int (2 : Int32)), .val (.ref b692), .val (.ref b693), .val (.ref b695), .val (.ref b702), .val (.int (3 : Int32))] [])) _
        refine XS.aload X852.here hx rfl (hb hby at_186) rfl rfl ?_
        show Steps p.tables e below (T852.setTop (mkF m 188 #[.val (.int p1), .val (.int p2), .val (.int p3), .val (.int p4), .val (.int p5), .val (.int p6), .val (.int (1 : Int32)), .val (.int (2 : Int32)), .val (.ref b692), .val (.ref b693), .val (.ref b695), .val (.ref b702), .val (.int (3 : Int32))] [(.ref b695)])) _
        refine XS.iconst X852.here hx rfl (hb hby at_188) ?_
        show Steps p.tables e below (T852.setTop (mkF m 189 #[.val (.int p1), .val (.int p2), .val (.int p3), .val (.int p4), .val (.int p5), .val (.int p6), .val (.int (1 : Int32)), .val (.int (2 : Int32)), .val (.ref b692), .val (.ref b693), .val (.ref b695), .val (.ref b702), .val (.int (3 : Int32))] [(.int (1 : Int32)), (.ref b695)])) _
        refine XS.iload X852.here hx rfl (hb hby at_189) rfl ?_
        show Steps p.tables e below (T852.setTop (mkF m 191 #[.val (.int p1), .val (.int p2), .val (.int p3), .val (.int p4), .val (.int p5), .val (.int p6), .val (.int (1 : Int32)), .val (.int (2 : Int32)), .val (.ref b692), .val (.ref b693), .val (.ref b695), .val (.ref b702), .val (.int (3 : Int32))] [(.int (3 : Int32)), (.int (1 : Int32)), (.ref b695)])) _
        refine XS.aload X852.here hx rfl (hb hby at_191) rfl rfl ?_
        show Steps p.tables e below (T852.setTop (mkF m 193 #[.val (.int p1), .val (.int p2), .val (.int p3), .val (.int p4), .val (.int p5), .val (.int p6), .val (.int (1 : Int32)), .val (.int (2 : Int32)), .val (.ref b692), .val (.ref b693), .val (.ref b695), .val (.ref b702), .val (.int (3 : Int32))] [(.ref b692), (.int (3 : Int32)), (.int (1 : Int32)), (.ref b695)])) _
        refine XS.aload X852.here hx rfl (hb hby at_193) rfl rfl ?_
        exact k
      obtain ⟨_, _, ⟨T854, L854, k854, n854⟩, -, X854, ⟨Lc854, hQ854, l854, y854, z854⟩, st854⟩ := Jvm.LawKit.callS X852 hx (y := (⟨"com/example/axiomwright/axiomwright/ArcsAddAllPinLaw", "at", "(Lcom/example/axiomwright/axiomwright/Arcs;II[I[I)Z"⟩ : MethodName)) hown (mvT hZ (hw _ (List.mem_of_getElem? (i := 26) rfl))) (mvT hZ (hw _ (List.mem_of_getElem? (i := 27) rfl))) (mvT hZ (hw _ (List.mem_of_getElem? (i := 28) rfl))) (mvT hZ (hw _ (List.mem_of_getElem? (i := 29) rfl))) (by decide) (backOf (W := 0) (rm5_1_3 l Z a0 hw [] b695 b692 b693 b1_698 b2_698 k1_698 k2_698 k692 k693 p2 p4 p6 (0 : Int32) (0 : Int32) (0 : Int32) (0 : Int32) (0 : Int32) (0 : Int32) (0 : Int32) (0 : Int32) (0 : Int32) (0 : Int32) (0 : Int32) (0 : Int32) (0 : Int32) p3 p5 p2 (0 : Int32) (0 : Int32) (0 : Int32) (0 : Int32) (0 : Int32) (0 : Int32) (0 : Int32) (0 : Int32) (0 : Int32) (0 : Int32) (0 : Int32) (0 : Int32) (0 : Int32) p2 p4 p6 p3 p5 p2 T838.heap n0 Z838 Q839 U838_1 U838_2 U838_3 U838_4 Q846 Q847) hZ (hw _ (List.mem_of_getElem? (i := 29) rfl)) (hw _ (List.mem_of_getElem? (i := 28) rfl)) (by decide) (by decide)) (g := (mkF m 195 #[.val (.int p1), .val (.int p2), .val (.int p3), .val (.int p4), .val (.int p5), .val (.int p6), .val (.int (1 : Int32)), .val (.int (2 : Int32)), .val (.ref b692), .val (.ref b693), .val (.ref b695), .val (.ref b702), .val (.int (3 : Int32))] [(.ref b693), (.ref b692), (.int (3 : Int32)), (.int (1 : Int32)), (.ref b695)])) rfl (by rw [hml]; rfl) (argsL := [(.ref b695), (.int (1 : Int32)), (.int (3 : Int32)), (.ref b692), (.ref b693)]) (rest := []) (lenOf pd_5 rfl) rfl (by show 2 * 0 + _ ≤ _; exact Nat.le_of_eq rfl) (hb hby at_195) (fun _ _ => ⟨rfl, e852, (by decide : 8 + 0 ≤ _), (by decide : 76 + 0 ≤ _)⟩)
      dsimp only [Pt.U, Pt.locs, Pt.cells, Pt.slots] at X854 l854 y854 z854 st854 hQ854
      subst l854 y854 z854
      obtain ⟨rfl, Nq854, e854⟩ := hQ854
      have N854 := Fr.app N852 Nq854
      refine own_go (A := _) (B := T854.setTop (mkF m 198 #[.val (.int p1), .val (.int p2), .val (.int p3), .val (.int p4), .val (.int p5), .val (.int p6), .val (.int (1 : Int32)), .val (.int (2 : Int32)), .val (.ref b692), .val (.ref b693), .val (.ref b695), .val (.ref b702), .val (.int (3 : Int32))] [(.int (frm5_1_3 p4 p5 p4 p5))])) st854 ?_
      have hc198_855 : ¬ ((frm5_1_3 p4 p5 p4 p5) = (0 : Int32)) := by simp [frm5_1_3]
      refine own_go (A := T854.setTop (mkF m 198 #[.val (.int p1), .val (.int p2), .val (.int p3), .val (.int p4), .val (.int p5), .val (.int p6), .val (.int (1 : Int32)), .val (.int (2 : Int32)), .val (.ref b692), .val (.ref b693), .val (.ref b695), .val (.ref b702), .val (.int (3 : Int32))] [(.int (frm5_1_3 p4 p5 p4 p5))])) (B := T854.setTop (mkF m 210 #[.val (.int p1), .val (.int p2), .val (.int p3), .val (.int p4), .val (.int p5), .val (.int p6), .val (.int (1 : Int32)), .val (.int (2 : Int32)), .val (.ref b692), .val (.ref b693), .val (.ref b695), .val (.ref b702), .val (.int (3 : Int32))] [(.ref b693), (.ref b692), (.int (3 : Int32)), (.int (2 : Int32)), (.ref b695)])) (fun t k => ?_) ?_
      · show Steps p.tables e below (T854.setTop (mkF m 198 #[.val (.int p1), .val (.int p2), .val (.int p3), .val (.int p4), .val (.int p5), .val (.int p6), .val (.int (1 : Int32)), .val (.int (2 : Int32)), .val (.ref b692), .val (.ref b693), .val (.ref b695), .val (.ref b702), .val (.int (3 : Int32))] [(.int (frm5_1_3 p4 p5 p4 p5))])) _
        refine XS.ifNo X854.here hx rfl (hb hby at_198) rfl ((if0 _ _).trans (feq hc198_855).1) ?_
        show Steps p.tables e below (T854.setTop (mkF m 201 #[.val (.int p1), .val (.int p2), .val (.int p3), .val (.int p4), .val (.int p5), .val (.int p6), .val (.int (1 : Int32)), .val (.int (2 : Int32)), .val (.ref b692), .val (.ref b693), .val (.ref b695), .val (.ref b702), .val (.int (3 : Int32))] [])) _
        refine XS.aload X854.here hx rfl (hb hby at_201) rfl rfl ?_
        show Steps p.tables e below (T854.setTop (mkF m 203 #[.val (.int p1), .val (.int p2), .val (.int p3), .val (.int p4), .val (.int p5), .val (.int p6), .val (.int (1 : Int32)), .val (.int (2 : Int32)), .val (.ref b692), .val (.ref b693), .val (.ref b695), .val (.ref b702), .val (.int (3 : Int32))] [(.ref b695)])) _
        refine XS.iconst X854.here hx rfl (hb hby at_203) ?_
        show Steps p.tables e below (T854.setTop (mkF m 204 #[.val (.int p1), .val (.int p2), .val (.int p3), .val (.int p4), .val (.int p5), .val (.int p6), .val (.int (1 : Int32)), .val (.int (2 : Int32)), .val (.ref b692), .val (.ref b693), .val (.ref b695), .val (.ref b702), .val (.int (3 : Int32))] [(.int (2 : Int32)), (.ref b695)])) _
        refine XS.iload X854.here hx rfl (hb hby at_204) rfl ?_
        show Steps p.tables e below (T854.setTop (mkF m 206 #[.val (.int p1), .val (.int p2), .val (.int p3), .val (.int p4), .val (.int p5), .val (.int p6), .val (.int (1 : Int32)), .val (.int (2 : Int32)), .val (.ref b692), .val (.ref b693), .val (.ref b695), .val (.ref b702), .val (.int (3 : Int32))] [(.int (3 : Int32)), (.int (2 : Int32)), (.ref b695)])) _
        refine XS.aload X854.here hx rfl (hb hby at_206) rfl rfl ?_
        show Steps p.tables e below (T854.setTop (mkF m 208 #[.val (.int p1), .val (.int p2), .val (.int p3), .val (.int p4), .val (.int p5), .val (.int p6), .val (.int (1 : Int32)), .val (.int (2 : Int32)), .val (.ref b692), .val (.ref b693), .val (.ref b695), .val (.ref b702), .val (.int (3 : Int32))] [(.ref b692), (.int (3 : Int32)), (.int (2 : Int32)), (.ref b695)])) _
        refine XS.aload X854.here hx rfl (hb hby at_208) rfl rfl ?_
        exact k
      obtain ⟨_, _, ⟨T856, L856, k856, n856⟩, -, X856, ⟨Lc856, hQ856, l856, y856, z856⟩, st856⟩ := Jvm.LawKit.callS X854 hx (y := (⟨"com/example/axiomwright/axiomwright/ArcsAddAllPinLaw", "at", "(Lcom/example/axiomwright/axiomwright/Arcs;II[I[I)Z"⟩ : MethodName)) hown (mvT hZ (hw _ (List.mem_of_getElem? (i := 26) rfl))) (mvT hZ (hw _ (List.mem_of_getElem? (i := 27) rfl))) (mvT hZ (hw _ (List.mem_of_getElem? (i := 28) rfl))) (mvT hZ (hw _ (List.mem_of_getElem? (i := 29) rfl))) (by decide) (backOf (W := 0) (rm5_2_3 l Z a0 hw [] b695 b692 b693 b1_698 b2_698 k1_698 k2_698 k692 k693 p2 p4 p6 (0 : Int32) (0 : Int32) (0 : Int32) (0 : Int32) (0 : Int32) (0 : Int32) (0 : Int32) (0 : Int32) (0 : Int32) (0 : Int32) (0 : Int32) (0 : Int32) (0 : Int32) p3 p5 p2 (0 : Int32) (0 : Int32) (0 : Int32) (0 : Int32) (0 : Int32) (0 : Int32) (0 : Int32) (0 : Int32) (0 : Int32) (0 : Int32) (0 : Int32) (0 : Int32) (0 : Int32) p2 p4 p6 p3 p5 p2 T838.heap n0 Z838 Q839 U838_1 U838_2 U838_3 U838_4 Q846 Q847) hZ (hw _ (List.mem_of_getElem? (i := 29) rfl)) (hw _ (List.mem_of_getElem? (i := 28) rfl)) (by decide) (by decide)) (g := (mkF m 210 #[.val (.int p1), .val (.int p2), .val (.int p3), .val (.int p4), .val (.int p5), .val (.int p6), .val (.int (1 : Int32)), .val (.int (2 : Int32)), .val (.ref b692), .val (.ref b693), .val (.ref b695), .val (.ref b702), .val (.int (3 : Int32))] [(.ref b693), (.ref b692), (.int (3 : Int32)), (.int (2 : Int32)), (.ref b695)])) rfl (by rw [hml]; rfl) (argsL := [(.ref b695), (.int (2 : Int32)), (.int (3 : Int32)), (.ref b692), (.ref b693)]) (rest := []) (lenOf pd_5 rfl) rfl (by show 2 * 0 + _ ≤ _; exact Nat.le_of_eq rfl) (hb hby at_210) (fun _ _ => ⟨rfl, e854, (by decide : 8 + 0 ≤ _), (by decide : 76 + 0 ≤ _)⟩)
      dsimp only [Pt.U, Pt.locs, Pt.cells, Pt.slots] at X856 l856 y856 z856 st856 hQ856
      subst l856 y856 z856
      obtain ⟨rfl, Nq856, e856⟩ := hQ856
      have N856 := Fr.app N854 Nq856
      refine own_go (A := _) (B := T856.setTop (mkF m 213 #[.val (.int p1), .val (.int p2), .val (.int p3), .val (.int p4), .val (.int p5), .val (.int p6), .val (.int (1 : Int32)), .val (.int (2 : Int32)), .val (.ref b692), .val (.ref b693), .val (.ref b695), .val (.ref b702), .val (.int (3 : Int32))] [(.int (frm5_2_3 p6 p2 p6 p2))])) st856 ?_
      have hc213_857 : ¬ ((frm5_2_3 p6 p2 p6 p2) = (0 : Int32)) := by simp [frm5_2_3]
      refine own_go (A := T856.setTop (mkF m 213 #[.val (.int p1), .val (.int p2), .val (.int p3), .val (.int p4), .val (.int p5), .val (.int p6), .val (.int (1 : Int32)), .val (.int (2 : Int32)), .val (.ref b692), .val (.ref b693), .val (.ref b695), .val (.ref b702), .val (.int (3 : Int32))] [(.int (frm5_2_3 p6 p2 p6 p2))])) (B := T856.setTop (mkF m 221 #[.val (.int p1), .val (.int p2), .val (.int p3), .val (.int p4), .val (.int p5), .val (.int p6), .val (.int (1 : Int32)), .val (.int (2 : Int32)), .val (.ref b692), .val (.ref b693), .val (.ref b695), .val (.ref b702), .val (.int (3 : Int32))] [(.int (1 : Int32))])) (fun t k => ?_) ?_
      · show Steps p.tables e below (T856.setTop (mkF m 213 #[.val (.int p1), .val (.int p2), .val (.int p3), .val (.int p4), .val (.int p5), .val (.int p6), .val (.int (1 : Int32)), .val (.int (2 : Int32)), .val (.ref b692), .val (.ref b693), .val (.ref b695), .val (.ref b702), .val (.int (3 : Int32))] [(.int (frm5_2_3 p6 p2 p6 p2))])) _
        refine XS.ifNo X856.here hx rfl (hb hby at_213) rfl ((if0 _ _).trans (feq hc213_857).1) ?_
        show Steps p.tables e below (T856.setTop (mkF m 216 #[.val (.int p1), .val (.int p2), .val (.int p3), .val (.int p4), .val (.int p5), .val (.int p6), .val (.int (1 : Int32)), .val (.int (2 : Int32)), .val (.ref b692), .val (.ref b693), .val (.ref b695), .val (.ref b702), .val (.int (3 : Int32))] [])) _
        refine XS.iconst X856.here hx rfl (hb hby at_216) ?_
        show Steps p.tables e below (T856.setTop (mkF m 217 #[.val (.int p1), .val (.int p2), .val (.int p3), .val (.int p4), .val (.int p5), .val (.int p6), .val (.int (1 : Int32)), .val (.int (2 : Int32)), .val (.ref b692), .val (.ref b693), .val (.ref b695), .val (.ref b702), .val (.int (3 : Int32))] [(.int (1 : Int32))])) _
        refine XS.goto X856.here hx rfl (pc0 := 217) (pc' := 221) rfl (hb hby at_217) (by decide) (by decide) ?_
        exact k
      obtain ⟨fs, hr, hrun, hended, hW, hsame⟩ := X856.leave (v := some (.int (1 : Int32))) (fun h => by rw [Bd.returns] at h; cases h)
      refine ⟨_, _, ?_, hrun, hended, _, _, rfl, ?_, ⟨_, rfl⟩, hW, hsame.mono (by decide) (by decide)⟩
      · show Steps p.tables e below (T856.setTop (mkF m 221 #[.val (.int p1), .val (.int p2), .val (.int p3), .val (.int p4), .val (.int p5), .val (.int p6), .val (.int (1 : Int32)), .val (.int (2 : Int32)), .val (.ref b692), .val (.ref b693), .val (.ref b695), .val (.ref b702), .val (.int (3 : Int32))] [(.int (1 : Int32))])) _
        exact retN X856 hx (t := .boolean) Bd.returns (by simp) (hb hby at_221) hr
      · show Qrm0 Z p1 p2 p3 p4 p5 p6 h0 n0 _ T856.heap _
        rw [e856]
        exact ⟨rfl, N856⟩
set_option maxRecDepth 65536 in
set_option maxHeartbeats 40000000 in
theorem comes_1 {Post : Tables → Env → Array Value → State → Outcome → State → Prop} (hpost : ∀ tb e args s v u, (limb_1_1.after args s (.returned v) u = true ∧ limb_1_2.after args s (.returned v) u = true ∧ True) → FrameEnd s (.returned v) u (Jvm.fieldLocs frame_1_writes args s ++ Jvm.arrayLocs frame_1_arrays args s ++ Jvm.staticLocs frame_1_statics s) 24 256 → Post tb e args s (.returned v) u) :
    ArmFor flags0 classFile x code maxLocals ret World_1 tables_1 room_1 Calls_1 rest_1 Pre_1 Post := by
  intro l hfl _ _ p e ha hc hk s m args below hf hA hF happ hP
  obtain ⟨hcalls, hrest, hpre⟩ := hP
  obtain ⟨-, -, -, hnamed, -, -, -, hat⟩ := (Spec.applies_iff hf).mp happ
  obtain ⟨hg, hn⟩ := and_e (Cond.before_iff.mp (show (Jvm.Cond.and given_1 narrow_1).before args s = true from hpre))
  obtain ⟨hg0, hgs⟩ := and_e hg
  obtain ⟨w0, w1, w2, w3, w4, w5, rfl⟩ : ∃ w0 w1 w2 w3 w4 w5 : Value, args = #[w0, w1, w2, w3, w4, w5] := by
    have hs : args.size = 6 := by simpa [Cond.value, given_1] using hg0
    obtain ⟨L⟩ := args
    match L, hs with
    | [w0, w1, w2, w3, w4, w5], _ => exact ⟨w0, w1, w2, w3, w4, w5, rfl⟩
  have hw := fun d (hd : d ∈ tables_1) => atoms_spec (ws := Jvm.Cond.code x code maxLocals ret :: tables_1) hat d (List.mem_cons_of_mem _ hd)
  have hfit : Fit s := fun {y c} hc i hi => by
    obtain ⟨ha, rfl⟩ := Array.getElem?_eq_some_iff.mp hc
    have q := List.all_eq_true.mp ((Array.all_eq_true_iff_forall_mem.mp hF) _ (Array.getElem_mem ha)) i (List.mem_range.mpr hi)
    simpa [Array.getElem?_eq_getElem hi] using q
  obtain ⟨gi0, gr0⟩ := and_e hgs
  obtain ⟨i0, ei0⟩ := is_v gi0
  obtain rfl : w0 = (.int i0) := Option.some.inj ei0
  obtain ⟨gi1, gr1⟩ := and_e gr0
  obtain ⟨i1, ei1⟩ := is_v gi1
  obtain rfl : w1 = (.int i1) := Option.some.inj ei1
  obtain ⟨gi2, gr2⟩ := and_e gr1
  obtain ⟨i2, ei2⟩ := is_v gi2
  obtain rfl : w2 = (.int i2) := Option.some.inj ei2
  obtain ⟨gi3, gr3⟩ := and_e gr2
  obtain ⟨i3, ei3⟩ := is_v gi3
  obtain rfl : w3 = (.int i3) := Option.some.inj ei3
  obtain ⟨gi4, gr4⟩ := and_e gr3
  obtain ⟨i4, ei4⟩ := is_v gi4
  obtain rfl : w4 = (.int i4) := Option.some.inj ei4
  obtain ⟨i5, ei5⟩ := is_v gr4
  obtain rfl : w5 = (.int i5) := Option.some.inj ei5
  obtain ⟨n, o, h1, h2, h3, _, L, rfl, ⟨hv, N⟩, hq⟩ := rm0 l s _ hw tables_1 i0 i1 i2 i3 i4 i5  s.heap s.heap.size (Nat.le_refl _)  p e ha hc hk s m _ below hf ((Spec.applies_iff_loose hf).mp happ).1 ⟨rfl, State.Warmed39.refl s, rfl⟩ trivial
  obtain rfl := hv
  refine ⟨n, _, h1, h2, h3, hpost _ _ _ _ _ _ ⟨Cond.after_iff.mpr rfl, Cond.after_iff.mpr (eq_i res_at (Term.int_eval (1)) rfl), trivial⟩ ⟨hq.1, hq.2.1, (hq.2.2.sift fun y hy => Or.inr (N y hy)).mono (by decide) (by decide)⟩⟩
theorem main_1_1 : Claimed_1_1 := comes_1 fun _ _ _ _ _ _ h hF => ⟨h.1, hF⟩
theorem main_1_2 : Claimed_1_2 := comes_1 fun _ _ _ _ _ _ h hF => ⟨h.2.1, hF⟩
end Jvm.Pilot.@@N@@
namespace Jvm.Pilot.@@N@@
open Jvm Jvm.ClassFile Sem Op Lib Jvm.Free Jvm.Stand Jvm.Pilot.@@N@@.Jvm.D
/-! MADE BY PROGRAM (witnessworld.py) out of the Statement's table words and the real class files: 9 classes; the members and pool entries that the words name. The judged class is class 1, her method 2. -/
namespace start1
open Jvm.ClassFile
def u (s : String) : CpInfo := .utf8 (stringToUtf16 s)
/-- a pool by its gaps: so many unusable entries, then the entry; so many at the end -/
def gap : Nat → List CpInfo → List CpInfo
  | 0, r => r
  | n + 1, r => .unusable :: gap n r
def poolList (es : List (Nat × CpInfo)) (last : Nat) : List CpInfo := es.foldr (fun e r => gap e.1 (e.2 :: r)) (gap last [])
def pool (es : List (Nat × CpInfo)) (last : Nat) : Array CpInfo := ⟨poolList es last⟩
def fileOf (pool : Array CpInfo) (this : Nat) (attrs : Array Attribute := #[]) (ms : Array MethodInfo := #[]) (fl : Nat := 33) (sup : Nat := 0) (ifs : Array Nat := #[]) (fds : Array FieldInfo := #[]) : ClassFile where
  minorVersion := 0
  majorVersion := 65
  constantPool := pool
  accessFlags := fl
  thisClass := this
  superClass := sup
  interfaces := ifs
  fields := fds
  methods := ms
  attributes := attrs
def plain (name : String) (sup : Option ClassId) : Class where
  name := name
  kind := .ordinary
  loader := none
  accessFlags := 33
  super := sup
  interfaces := #[]
  cf := none
  fields := #[]
  methods := #[]
  instanceTypes := #[]
  staticTypes := #[]
  resolved := #[]
  callSites := []
  init := .initialized
  statics := none
  mirror := none

def pool0 : Array CpInfo := pool [(5, u "<init>"), (0, u "()V"), (1, .class_ 10), (1, u "java/lang/Object")] 113

def k0c0 : Code := { maxStack := 0, maxLocals := 1, code := object_method_1_code, exceptionTable := #[], attributes := #[] }
def k0m0 : Method := { name := "<init>", desc := "()V", sig := { parameters := [], returnType := none }, accessFlags := 1, code := some k0c0 }
/-- java/lang/Object -/
def k0 : Class := { plain "java/lang/Object" none with
  accessFlags := 33
  interfaces := #[]
  cf := some (fileOf pool0 8 #[] #[{ accessFlags := 1, nameIndex := 5, descriptorIndex := 6, attributes := #[] }] 33 0 #[] #[])
  fields := #[]
  methods := #[k0m0]
  instanceTypes := #[]
  staticTypes := #[]
  resolved := Array.replicate 124 none
  statics := none }

def pool1 : Array CpInfo := pool [(2, .class_ 4), (0, .nameAndType 5 6), (0, u "java/lang/Object"), (0, u "<init>"), (0, u "()V"), (0, .methodref 8 9), (0, .class_ 10), (0, .nameAndType 11 12), (0, u "com/example/axiomwright/axiomwright/Arcs"), (0, u "tail"), (0, u "(I)I"), (0, .methodref 8 14), (0, .nameAndType 15 12), (0, u "head"), (0, .methodref 8 3), (0, .methodref 8 18), (0, .nameAndType 19 20), (0, u "add"), (0, u "(II)V"), (0, .methodref 8 22), (0, .nameAndType 23 24), (0, u "addAll"), (0, u "(Lcom/example/axiomwright/axiomwright/Arcs;)V"), (0, .methodref 8 26), (0, .nameAndType 27 28), (0, u "size"), (0, u "()I"), (0, .methodref 30 31), (0, .class_ 32), (0, .nameAndType 33 34), (0, u "com/example/axiomwright/axiomwright/ArcsAddAllPinLaw"), (0, u "at"), (0, u "(Lcom/example/axiomwright/axiomwright/Arcs;II[I[I)Z"), (3, u "law"), (0, u "(IIIIII)Z")] 4

def k1m0 : Method := { name := "<init>", desc := "()V", sig := { parameters := [], returnType := none }, accessFlags := 1, code := none }
def k1c1 : Code := { maxStack := 3, maxLocals := 5, code := method_2_code, exceptionTable := #[], attributes := #[] }
def k1m1 : Method := { name := "at", desc := "(Lcom/example/axiomwright/axiomwright/Arcs;II[I[I)Z", sig := { parameters := [(.object "com/example/axiomwright/axiomwright/Arcs"), .int, .int, (.array .int), (.array .int)], returnType := some .boolean }, accessFlags := 10, code := some k1c1 }
def k1c2 : Code := { maxStack := 5, maxLocals := 13, code := code, exceptionTable := #[], attributes := #[] }
def k1m2 : Method := { name := "law", desc := "(IIIIII)Z", sig := { parameters := [.int, .int, .int, .int, .int, .int], returnType := some .boolean }, accessFlags := 9, code := some k1c2 }
/-- com/example/axiomwright/axiomwright/ArcsAddAllPinLaw -/
def k1 : Class := { plain "com/example/axiomwright/axiomwright/ArcsAddAllPinLaw" (some 0) with
  accessFlags := 49
  interfaces := #[]
  cf := some (fileOf pool1 30 #[] #[{ accessFlags := 1, nameIndex := 5, descriptorIndex := 6, attributes := #[] }, { accessFlags := 10, nameIndex := 33, descriptorIndex := 34, attributes := #[] }, { accessFlags := 9, nameIndex := 38, descriptorIndex := 39, attributes := #[] }] 49 2 #[] #[])
  fields := #[]
  methods := #[k1m0, k1m1, k1m2]
  instanceTypes := #[]
  staticTypes := #[]
  resolved := Array.replicate 44 none
  statics := none }

def pool2 : Array CpInfo := pool [(1, .methodref 2 3), (0, .class_ 4), (0, .nameAndType 5 6), (0, u "java/lang/Object"), (0, u "<init>"), (0, u "()V"), (0, .fieldref 8 9), (0, .class_ 10), (0, .nameAndType 11 12), (0, u "com/example/axiomwright/axiomwright/Arcs"), (0, u "from"), (0, u "[I"), (0, .fieldref 8 14), (0, .nameAndType 15 12), (0, u "to"), (0, .fieldref 8 17), (0, .nameAndType 18 19), (0, u "size"), (0, u "I"), (6, .methodref 8 27), (0, .nameAndType 28 29), (0, u "add"), (0, u "(II)V"), (5, u "addAll"), (0, u "(Lcom/example/axiomwright/axiomwright/Arcs;)V"), (0, u "()I"), (0, u "tail"), (0, u "(I)I"), (0, u "head")] 2

def k2c0 : Code := { maxStack := 2, maxLocals := 1, code := prog_2_method_1_code, exceptionTable := #[], attributes := #[] }
def k2m0 : Method := { name := "<init>", desc := "()V", sig := { parameters := [], returnType := none }, accessFlags := 0, code := some k2c0 }
def k2c1 : Code := { maxStack := 5, maxLocals := 3, code := prog_2_method_3_code, exceptionTable := #[], attributes := #[] }
def k2m1 : Method := { name := "add", desc := "(II)V", sig := { parameters := [.int, .int], returnType := none }, accessFlags := 0, code := some k2c1 }
def k2c2 : Code := { maxStack := 4, maxLocals := 3, code := prog_2_method_4_code, exceptionTable := #[], attributes := #[] }
def k2m2 : Method := { name := "addAll", desc := "(Lcom/example/axiomwright/axiomwright/Arcs;)V", sig := { parameters := [(.object "com/example/axiomwright/axiomwright/Arcs")], returnType := none }, accessFlags := 0, code := some k2c2 }
def k2c3 : Code := { maxStack := 1, maxLocals := 1, code := prog_2_method_5_code, exceptionTable := #[], attributes := #[] }
def k2m3 : Method := { name := "size", desc := "()I", sig := { parameters := [], returnType := some .int }, accessFlags := 0, code := some k2c3 }
def k2c4 : Code := { maxStack := 2, maxLocals := 2, code := prog_2_method_6_code, exceptionTable := #[], attributes := #[] }
def k2m4 : Method := { name := "tail", desc := "(I)I", sig := { parameters := [.int], returnType := some .int }, accessFlags := 0, code := some k2c4 }
def k2c5 : Code := { maxStack := 2, maxLocals := 2, code := prog_2_method_7_code, exceptionTable := #[], attributes := #[] }
def k2m5 : Method := { name := "head", desc := "(I)I", sig := { parameters := [.int], returnType := some .int }, accessFlags := 0, code := some k2c5 }
/-- com/example/axiomwright/axiomwright/Arcs -/
def k2 : Class := { plain "com/example/axiomwright/axiomwright/Arcs" (some 0) with
  accessFlags := 48
  interfaces := #[]
  cf := some (fileOf pool2 8 #[] #[{ accessFlags := 0, nameIndex := 5, descriptorIndex := 6, attributes := #[] }, { accessFlags := 0, nameIndex := 28, descriptorIndex := 29, attributes := #[] }, { accessFlags := 0, nameIndex := 35, descriptorIndex := 36, attributes := #[] }, { accessFlags := 0, nameIndex := 18, descriptorIndex := 37, attributes := #[] }, { accessFlags := 0, nameIndex := 38, descriptorIndex := 39, attributes := #[] }, { accessFlags := 0, nameIndex := 40, descriptorIndex := 39, attributes := #[] }] 48 2 #[] #[{ accessFlags := 2, nameIndex := 11, descriptorIndex := 12, attributes := #[] }, { accessFlags := 2, nameIndex := 15, descriptorIndex := 12, attributes := #[] }, { accessFlags := 2, nameIndex := 18, descriptorIndex := 19, attributes := #[] }])
  fields := #[{ name := "from", type := (.array .int), accessFlags := 2, slot := 0, constantValue := 0 }, { name := "to", type := (.array .int), accessFlags := 2, slot := 1, constantValue := 0 }, { name := "size", type := .int, accessFlags := 2, slot := 2, constantValue := 0 }]
  methods := #[k2m0, k2m1, k2m2, k2m3, k2m4, k2m5]
  instanceTypes := #[(.array .int), (.array .int), .int]
  staticTypes := #[]
  resolved := Array.replicate 43 none
  statics := none }

def pool3 : Array CpInfo := pool [(1, u "java/lang/Cloneable"), (0, .class_ 1), (0, u "java/lang/Object"), (0, .class_ 3)] 3

/-- java/lang/Cloneable -/
def k3 : Class := { plain "java/lang/Cloneable" (some 0) with
  accessFlags := 1537
  interfaces := #[]
  cf := some (fileOf pool3 2 #[] #[] 1537 4 #[] #[])
  fields := #[]
  methods := #[]
  instanceTypes := #[]
  staticTypes := #[]
  resolved := Array.replicate 8 none
  statics := none }

def pool4 : Array CpInfo := pool [(1, u "java/io/Serializable"), (0, .class_ 1), (0, u "java/lang/Object"), (0, .class_ 3)] 3

/-- java/io/Serializable -/
def k4 : Class := { plain "java/io/Serializable" (some 0) with
  accessFlags := 1537
  interfaces := #[]
  cf := some (fileOf pool4 2 #[] #[] 1537 4 #[] #[])
  fields := #[]
  methods := #[]
  instanceTypes := #[]
  staticTypes := #[]
  resolved := Array.replicate 8 none
  statics := none }

/-- the primitive byte -/
def k5 : Class := { plain "byte" none with kind := .primitive 'B', accessFlags := 0x411 }
/-- [B -/
def k6 : Class := { plain "[B" (some 0) with kind := .array 5 .byte, interfaces := #[3, 4], accessFlags := 1041 }

/-- the primitive int -/
def k7 : Class := { plain "int" none with kind := .primitive 'I', accessFlags := 0x411 }
/-- [I -/
def k8 : Class := { plain "[I" (some 0) with kind := .array 7 .int, interfaces := #[3, 4], accessFlags := 1041 }

def heap : Heap := #[]
def classes : Array Class := #[k0, k1, k2, k3, k4, k5, k6, k7, k8]
def interned : List (Array UInt16 × Addr) := []
def slotsUsed : Nat := 0
def theMethod : MethodId := ⟨1, 2⟩
def args0 : Array Value := #[.int 5, .int 1, .int 2, .int 3, .int 4, .int 6]
def aboutOver (below : List Frame) : State where
  vm := { classes := classes, interned := interned.toArray }
  heap := heap
  slotsUsed := slotsUsed
  threads := #[{ frames := .invoking theMethod args0 :: below }]
def below0 : List Frame := [.native { method := ⟨0, 0⟩, args := #[] }]
def about1 : State := aboutOver below0
def p0 : Program := .bare "" "" ""
def e0 : Env := launch0.env 0 0 0
theorem w_frames : about1.frames = Frame.invoking theMethod args0 :: below0 := rfl
set_option maxRecDepth 65536 in
theorem w_args : argsFit about1.vm theMethod args0 = true := by decide +kernel
set_option maxRecDepth 65536 in
theorem w_heap : heapFits about1 = true := by decide +kernel
set_option maxRecDepth 65536 in
theorem w_runnable : about1.curStatus? = some .runnable := by decide +kernel
set_option maxRecDepth 65536 in
theorem w_alone : about1.alone = true := by decide +kernel
set_option maxRecDepth 65536 in
theorem w_named : about1.methodNamed? x = some theMethod := by decide +kernel
set_option maxRecDepth 65536 in
theorem w_hears : about1.hears theMethod below0 = true := by decide +kernel
set_option maxRecDepth 65536 in
theorem w_ripe : about1.ripe theMethod args0 below0 = true := by decide +kernel
theorem w_running : about1.status = .running := rfl
set_option maxRecDepth 65536 in
theorem w_room : about1.hasRoom e0.platform room_1 = true :=
  launch0.hasRoom_least _ room_1 (by decide +kernel) (by decide +kernel) (by decide +kernel) (by decide +kernel) (by decide +kernel) (by decide +kernel)
theorem allAtoms_all (ts : List Jvm.Cond) (a : Array Jvm.Value) (st : Jvm.State) : (allAtoms ts).before a st = ts.all (fun c => c.before a st) := by
  induction ts with
  | nil => rfl
  | cons c t ih =>
    show (Jvm.Cond.and c (allAtoms t)).before a st = _
    rw [Jvm.Cond.before_and, ih, List.all_cons]
def words1 : List Jvm.Cond := Jvm.Cond.code x code maxLocals ret :: tables_1
/-- a 'code' word, met by the world's own term for the bytes: nothing is compared byte by byte -/
theorem code_word {y : MethodName} {bytes : ByteArray} {mx : Nat} {rt : Option FieldType} {a : Array Value} {s : State} {m : MethodId} {meth : Method} {c : Code} (h1 : s.methodNamed? y = some m) (h2 : s.vm.method? m = some meth) (h3 : meth.code = some c) (h4 : c.code = bytes)
    (h5 : (c.maxLocals == mx && c.exceptionTable.isEmpty && decide (c.maxStack ≤ mostOperands) && decide (meth.sig.returnType = rt) && !meth.locks && decide (parseMethodDescriptor y.desc = some meth.sig)) = true) : (Jvm.Cond.code y bytes mx rt).before a s = true := by
  simp only [Bool.and_eq_true, beq_iff_eq, Bool.not_eq_true', decide_eq_true_eq] at h5
  obtain ⟨⟨⟨⟨⟨g1, g2⟩, g3⟩, g4⟩, g5⟩, g6⟩ := h5
  simp [Cond.before, Cond.holds, Cond.value, h1, h2, h3, h4, g1, g2, g3, g4, g5, g6]
def isCode : Jvm.Cond → Bool
  | .code _ _ _ _ => true
  | _ => false
theorem all_split {L : List Jvm.Cond} {P : Jvm.Cond → Bool} (h1 : L.all (fun c => isCode c || P c) = true) (h2 : ∀ c ∈ L.filter isCode, P c = true) : L.all P = true := by
  refine List.all_eq_true.mpr fun c hc => ?_
  have h := List.all_eq_true.mp h1 c hc
  rcases Bool.eq_false_or_eq_true (isCode c) with hi | hi
  · exact h2 c (List.mem_filter.mpr ⟨hc, hi⟩)
  · simpa [hi] using h
set_option maxRecDepth 65536 in
theorem w_c0 : (Jvm.Cond.code x code maxLocals ret).before args0 about1 = true := code_word (m := ⟨1, 2⟩) (meth := k1m2) (c := k1c2) (by decide +kernel) rfl rfl rfl (by decide +kernel)
set_option maxRecDepth 65536 in
theorem w_c1 : (Jvm.Cond.code ({ cls := "com/example/axiomwright/axiomwright/Arcs", name := "<init>", desc := "()V" } : Jvm.MethodName) prog_2_method_1_code (1 : Nat) (Option.none : Option Jvm.ClassFile.FieldType)).before args0 about1 = true := code_word (m := ⟨2, 0⟩) (meth := k2m0) (c := k2c0) (by decide +kernel) rfl rfl rfl (by decide +kernel)
set_option maxRecDepth 65536 in
theorem w_c2 : (Jvm.Cond.code ({ cls := "java/lang/Object", name := "<init>", desc := "()V" } : Jvm.MethodName) object_method_1_code (1 : Nat) (Option.none : Option Jvm.ClassFile.FieldType)).before args0 about1 = true := code_word (m := ⟨0, 0⟩) (meth := k0m0) (c := k0c0) (by decide +kernel) rfl rfl rfl (by decide +kernel)
set_option maxRecDepth 65536 in
theorem w_c3 : (Jvm.Cond.code ({ cls := "com/example/axiomwright/axiomwright/Arcs", name := "addAll", desc := "(Lcom/example/axiomwright/axiomwright/Arcs;)V" } : Jvm.MethodName) prog_2_method_4_code (3 : Nat) (Option.none : Option Jvm.ClassFile.FieldType)).before args0 about1 = true := code_word (m := ⟨2, 2⟩) (meth := k2m2) (c := k2c2) (by decide +kernel) rfl rfl rfl (by decide +kernel)
set_option maxRecDepth 65536 in
theorem w_c4 : (Jvm.Cond.code ({ cls := "com/example/axiomwright/axiomwright/Arcs", name := "size", desc := "()I" } : Jvm.MethodName) prog_2_method_5_code (1 : Nat) (Option.some Jvm.ClassFile.FieldType.int)).before args0 about1 = true := code_word (m := ⟨2, 3⟩) (meth := k2m3) (c := k2c3) (by decide +kernel) rfl rfl rfl (by decide +kernel)
set_option maxRecDepth 65536 in
theorem w_c5 : (Jvm.Cond.code ({ cls := "com/example/axiomwright/axiomwright/ArcsAddAllPinLaw", name := "at", desc := "(Lcom/example/axiomwright/axiomwright/Arcs;II[I[I)Z" } : Jvm.MethodName) method_2_code (5 : Nat) (Option.some Jvm.ClassFile.FieldType.boolean)).before args0 about1 = true := code_word (m := ⟨1, 1⟩) (meth := k1m1) (c := k1c1) (by decide +kernel) rfl rfl rfl (by decide +kernel)
set_option maxRecDepth 65536 in
theorem w_c6 : (Jvm.Cond.code ({ cls := "com/example/axiomwright/axiomwright/Arcs", name := "add", desc := "(II)V" } : Jvm.MethodName) prog_2_method_3_code (3 : Nat) (Option.none : Option Jvm.ClassFile.FieldType)).before args0 about1 = true := code_word (m := ⟨2, 1⟩) (meth := k2m1) (c := k2c1) (by decide +kernel) rfl rfl rfl (by decide +kernel)
set_option maxRecDepth 65536 in
theorem w_c7 : (Jvm.Cond.code ({ cls := "com/example/axiomwright/axiomwright/Arcs", name := "tail", desc := "(I)I" } : Jvm.MethodName) prog_2_method_6_code (2 : Nat) (Option.some Jvm.ClassFile.FieldType.int)).before args0 about1 = true := code_word (m := ⟨2, 4⟩) (meth := k2m4) (c := k2c4) (by decide +kernel) rfl rfl rfl (by decide +kernel)
set_option maxRecDepth 65536 in
theorem w_c8 : (Jvm.Cond.code ({ cls := "com/example/axiomwright/axiomwright/Arcs", name := "head", desc := "(I)I" } : Jvm.MethodName) prog_2_method_7_code (2 : Nat) (Option.some Jvm.ClassFile.FieldType.int)).before args0 about1 = true := code_word (m := ⟨2, 5⟩) (meth := k2m5) (c := k2c5) (by decide +kernel) rfl rfl rfl (by decide +kernel)
def codes1 : List Jvm.Cond := [Jvm.Cond.code x code maxLocals ret, Jvm.Cond.code ({ cls := "com/example/axiomwright/axiomwright/Arcs", name := "<init>", desc := "()V" } : Jvm.MethodName) prog_2_method_1_code (1 : Nat) (Option.none : Option Jvm.ClassFile.FieldType), Jvm.Cond.code ({ cls := "java/lang/Object", name := "<init>", desc := "()V" } : Jvm.MethodName) object_method_1_code (1 : Nat) (Option.none : Option Jvm.ClassFile.FieldType), Jvm.Cond.code ({ cls := "com/example/axiomwright/axiomwright/Arcs", name := "addAll", desc := "(Lcom/example/axiomwright/axiomwright/Arcs;)V" } : Jvm.MethodName) prog_2_method_4_code (3 : Nat) (Option.none : Option Jvm.ClassFile.FieldType), Jvm.Cond.code ({ cls := "com/example/axiomwright/axiomwright/Arcs", name := "size", desc := "()I" } : Jvm.MethodName) prog_2_method_5_code (1 : Nat) (Option.some Jvm.ClassFile.FieldType.int), Jvm.Cond.code ({ cls := "com/example/axiomwright/axiomwright/ArcsAddAllPinLaw", name := "at", desc := "(Lcom/example/axiomwright/axiomwright/Arcs;II[I[I)Z" } : Jvm.MethodName) method_2_code (5 : Nat) (Option.some Jvm.ClassFile.FieldType.boolean), Jvm.Cond.code ({ cls := "com/example/axiomwright/axiomwright/Arcs", name := "add", desc := "(II)V" } : Jvm.MethodName) prog_2_method_3_code (3 : Nat) (Option.none : Option Jvm.ClassFile.FieldType), Jvm.Cond.code ({ cls := "com/example/axiomwright/axiomwright/Arcs", name := "tail", desc := "(I)I" } : Jvm.MethodName) prog_2_method_6_code (2 : Nat) (Option.some Jvm.ClassFile.FieldType.int), Jvm.Cond.code ({ cls := "com/example/axiomwright/axiomwright/Arcs", name := "head", desc := "(I)I" } : Jvm.MethodName) prog_2_method_7_code (2 : Nat) (Option.some Jvm.ClassFile.FieldType.int)]
set_option maxRecDepth 65536 in
theorem codes_eq : words1.filter isCode = codes1 := rfl
theorem w_codes : ∀ c ∈ words1.filter isCode, c.before args0 about1 = true := by
  rw [codes_eq]
  intro c hc
  simp only [codes1, List.mem_cons, List.not_mem_nil, or_false] at hc
  rcases hc with rfl | rfl | rfl | rfl | rfl | rfl | rfl | rfl | rfl
  · exact w_c0
  · exact w_c1
  · exact w_c2
  · exact w_c3
  · exact w_c4
  · exact w_c5
  · exact w_c6
  · exact w_c7
  · exact w_c8
set_option maxRecDepth 65536 in
theorem w_t1 : (words1.take 24).all (fun c => isCode c || c.before args0 about1) = true := by decide +kernel
set_option maxRecDepth 65536 in
theorem w_t2 : (words1.drop 24).all (fun c => isCode c || c.before args0 about1) = true := by decide +kernel
theorem w_tables : (allAtoms (Jvm.Cond.code x code maxLocals ret :: tables_1)).before args0 about1 = true := by
  rw [allAtoms_all]
  show words1.all (fun c => c.before args0 about1) = true
  refine all_split ?_ w_codes
  rw [← List.take_append_drop 24 words1, List.all_append, w_t1, w_t2]
  rfl
set_option maxRecDepth 65536 in
theorem w_case : (Jvm.Cond.and given_1 narrow_1).before args0 about1 = true := by decide +kernel
theorem w_applies : (headSpec (Jvm.Cond.code x code maxLocals ret :: tables_1) room_1).applies x e0.platform about1 = true :=
  (Spec.applies_iff w_frames).mpr ⟨w_running, w_runnable, w_alone, w_named, w_hears, w_ripe, w_room, w_tables⟩
theorem atStart : AtStart classFile x code maxLocals ret World_1 tables_1 room_1 Calls_1 rest_1 Pre_1 launch0 p0 e0 about1 theMethod args0 below0 :=
  ⟨lists_1, trivial, launch0.admits_env _ _ _, launch0.least_env, fairChoices_fair.cas, fairChoices_fair.clock, w_frames, w_args, w_heap, w_applies, trivial, trivial, w_case⟩
end start1
theorem witness_1 : WitnessClaimed_1 := ⟨start1.p0, start1.e0, start1.about1, start1.theMethod, start1.args0, start1.below0, start1.atStart⟩
end Jvm.Pilot.@@N@@
