import JvmDerived
import JvmDerived.Pilot.@@N@@Statement
import JvmDerived.Pilot.@@N@@Code
set_option linter.unusedVariables false
set_option linter.unusedSimpArgs false
namespace Jvm.Pilot.@@N@@
open Jvm Jvm.ClassFile Sem Op Lib Jvm.Free Jvm.Stand Jvm.LawKit Jvm.RoadKit Bundle Jvm.Pilot.@@N@@.Jvm.D
theorem own_go {tb : Tables} {e : Env} {below : List Frame} {A B : State} {P : State → Outcome → Prop} (h : ∀ t, Steps tb e below B t → Steps tb e below A t) (k : ∃ s₂ o, Steps tb e below B s₂ ∧ P s₂ o) : ∃ s₂ o, Steps tb e below A s₂ ∧ P s₂ o := by
  obtain ⟨s₂, o, h1, h2⟩ := k; exact ⟨s₂, o, h _ h1, h2⟩
theorem d1_0 : decode prog_26_method_1_code 0 = .ok (.aload_n 0, 1) := by decide +kernel
theorem d1_1 : decode prog_26_method_1_code 1 = .ok (.invokespecial 3, 3) := by decide +kernel
theorem d1_4 : decode prog_26_method_1_code 4 = .ok (.aload_n 0, 1) := by decide +kernel
theorem d1_5 : decode prog_26_method_1_code 5 = .ok (.iload_n 1, 1) := by decide +kernel
theorem d1_6 : decode prog_26_method_1_code 6 = .ok (.putfield 9, 3) := by decide +kernel
theorem d1_9 : decode prog_26_method_1_code 9 = .ok (.aload_n 0, 1) := by decide +kernel
theorem d1_10 : decode prog_26_method_1_code 10 = .ok (.iload_n 2, 1) := by decide +kernel
theorem d1_11 : decode prog_26_method_1_code 11 = .ok (.putfield 15, 3) := by decide +kernel
theorem d1_14 : decode prog_26_method_1_code 14 = .ok (.aload_n 0, 1) := by decide +kernel
theorem d1_15 : decode prog_26_method_1_code 15 = .ok (.iload_n 3, 1) := by decide +kernel
theorem d1_16 : decode prog_26_method_1_code 16 = .ok (.putfield 18, 3) := by decide +kernel
theorem d1_19 : decode prog_26_method_1_code 19 = .ok (.return_, 1) := by decide +kernel
theorem pn_0 : plainName "com/example/mullion/mullion/layout/Extent" = true := by first | (simp [plainName, overriddenIn]; done) | decide +kernel
theorem d3_0 : decode jdk_29_method_69_code 0 = .ok (.iload_n 0, 1) := by decide +kernel
theorem d3_1 : decode jdk_29_method_69_code 1 = .ok (.iload_n 1, 1) := by decide +kernel
theorem d3_2 : decode jdk_29_method_69_code 2 = .ok (.if_icmp .gt 7, 3) := by decide +kernel
theorem d3_9 : decode jdk_29_method_69_code 9 = .ok (.iload_n 1, 1) := by decide +kernel
theorem d3_10 : decode jdk_29_method_69_code 10 = .ok (.ireturn, 1) := by decide +kernel
theorem d3_5 : decode jdk_29_method_69_code 5 = .ok (.iload_n 0, 1) := by decide +kernel
theorem d3_6 : decode jdk_29_method_69_code 6 = .ok (.goto 4, 3) := by decide +kernel
theorem d4_0 : decode jdk_29_method_65_code 0 = .ok (.iload_n 0, 1) := by decide +kernel
theorem d4_1 : decode jdk_29_method_65_code 1 = .ok (.iload_n 1, 1) := by decide +kernel
theorem d4_2 : decode jdk_29_method_65_code 2 = .ok (.if_icmp .lt 7, 3) := by decide +kernel
theorem d4_9 : decode jdk_29_method_65_code 9 = .ok (.iload_n 1, 1) := by decide +kernel
theorem d4_10 : decode jdk_29_method_65_code 10 = .ok (.ireturn, 1) := by decide +kernel
theorem d4_5 : decode jdk_29_method_65_code 5 = .ok (.iload_n 0, 1) := by decide +kernel
theorem d4_6 : decode jdk_29_method_65_code 6 = .ok (.goto 4, 3) := by decide +kernel
theorem d5_0 : decode prog_26_method_5_code 0 = .ok (.aload_n 0, 1) := by decide +kernel
theorem d5_1 : decode prog_26_method_5_code 1 = .ok (.getfield 9, 3) := by decide +kernel
theorem d5_4 : decode prog_26_method_5_code 4 = .ok (.aload_n 0, 1) := by decide +kernel
theorem d5_5 : decode prog_26_method_5_code 5 = .ok (.getfield 15, 3) := by decide +kernel
theorem d5_8 : decode prog_26_method_5_code 8 = .ok (.if_icmp .ne 14, 3) := by decide +kernel
theorem d5_11 : decode prog_26_method_5_code 11 = .ok (.aload_n 0, 1) := by decide +kernel
theorem d5_12 : decode prog_26_method_5_code 12 = .ok (.getfield 15, 3) := by decide +kernel
theorem d5_15 : decode prog_26_method_5_code 15 = .ok (.aload_n 0, 1) := by decide +kernel
theorem d5_16 : decode prog_26_method_5_code 16 = .ok (.getfield 18, 3) := by decide +kernel
theorem d5_19 : decode prog_26_method_5_code 19 = .ok (.if_icmp .eq 7, 3) := by decide +kernel
theorem d5_26 : decode prog_26_method_5_code 26 = .ok (.iconst 0, 1) := by decide +kernel
theorem d5_27 : decode prog_26_method_5_code 27 = .ok (.ireturn, 1) := by decide +kernel
theorem d5_22 : decode prog_26_method_5_code 22 = .ok (.iconst 1, 1) := by decide +kernel
theorem d5_23 : decode prog_26_method_5_code 23 = .ok (.goto 4, 3) := by decide +kernel
theorem pd_0 : parseMethodDescriptor "(III)V" = some ⟨[.int, .int, .int], none⟩ := by decide +kernel
theorem pd_1 : parseMethodDescriptor "(II)I" = some ⟨[.int, .int], some .int⟩ := by decide +kernel
theorem pd_2 : parseMethodDescriptor "()Z" = some ⟨[], some .boolean⟩ := by decide +kernel
theorem pn_1 : plainName "com/example/mullion/mullion/layout/ExtentResizablePinLaw" = true := by first | (simp [plainName, overriddenIn]; done) | decide +kernel
def Qrm1 (Z : State) (a1 : Addr) (p2 : Int32) (p3 : Int32) (p4 : Int32) (u1 : Int32) (u2 : Int32) (u3 : Int32) (h0 : Heap) (n0 : Nat) (v : Option Value) (h : Heap) (L : List Loc) : Prop := v = none ∧ Fr n0 L ∧ Keep h0 h [a1] ∧ Fld Z h a1 "com/example/mullion/mullion/layout/Extent" "minimum" "I" (.int p2) ∧ Fld Z h a1 "com/example/mullion/mullion/layout/Extent" "preferred" "I" (.int p3) ∧ Fld Z h a1 "com/example/mullion/mullion/layout/Extent" "maximum" "I" (.int p4)
theorem efrm1 (m : MethodId) (x0 : Addr) (x1 : Int32) (x2 : Int32) (x3 : Int32) : entryFrame m #[(.ref x0), (.int x1), (.int x2), (.int x3)] 4 = mkF m 0 #[.val (.ref x0), .val (.int x1), .val (.int x2), .val (.int x3)] [] := by first | (simp [entryFrame, mkF, argsToLocals, Value.category]; done) | rfl
set_option maxRecDepth 65536 in
set_option maxHeartbeats 40000000 in
theorem rm1 (l : Launch) (Z : State) (a0 : Array Value) (hw : ∀ d ∈ tables_1, d.before a0 Z = true) (ws : List Jvm.Cond) (a1 : Addr) (p2 : Int32) (p3 : Int32) (p4 : Int32) (u1 : Int32) (u2 : Int32) (u3 : Int32) (h0 : Heap) (n0 : Nat) (Z0 : n0 ≤ h0.size) (P0 : Exa Z h0 a1 "com/example/mullion/mullion/layout/Extent") (P1 : Fld Z h0 a1 "com/example/mullion/mullion/layout/Extent" "minimum" "I" (.int u1)) (P2 : Fld Z h0 a1 "com/example/mullion/mullion/layout/Extent" "preferred" "I" (.int u2)) (P3 : Fld Z h0 a1 "com/example/mullion/mullion/layout/Extent" "maximum" "I" (.int u3)) (g_a1 : n0 ≤ a1) :
    MetFree l (⟨"com/example/mullion/mullion/layout/Extent", "<init>", "(III)V"⟩ : MethodName) (head1 (Jvm.Cond.code (⟨"com/example/mullion/mullion/layout/Extent", "<init>", "(III)V"⟩ : MethodName) prog_26_method_1_code 4 none :: ws) ({ frames := 1, cells := 0, slots := 0, locals := 12 } : Room)) (fun a U => a = #[(.ref a1), (.int p2), (.int p3), (.int p4)] ∧ Z.Warmed39 U.vm ∧ U.heap = h0) (fun _ _ _ _ _ => True) (fun _ U o U' => ∃ v L, o = .returned v ∧ Qrm1 Z a1 p2 p3 p4 u1 u2 u3 h0 n0 v U'.heap L ∧ FrameEnd U o U' L ({ frames := 1, cells := 0, slots := 0, locals := 12 } : Room).cells ({ frames := 1, cells := 0, slots := 0, locals := 12 } : Room).slots) := by
  refine MetFree.of_bodySF (plainFor_of_name pn_0) hisR ?_
  intro p e s m args below meth c s₁ Bd hml0 hP hK
  obtain ⟨rfl, hZ, hh⟩ := hP
  have hx := Bd.exec
  have hby := Bd.bytes
  have hml : c.maxLocals = 4 := hml0
  have hown : s.vm.findClass "com/example/mullion/mullion/layout/Extent" = some m.cls := findClass_of_methodNamed Bd.named
  have hnm := (name_of_methodNamed Bd.named Bd.method).1
  have X0 : Stand p l e ({ frames := 1, cells := 0, slots := 0, locals := 12 } : Room) s m #[(.ref a1), (.int p2), (.int p3), (.int p4)] below meth c s₁ [] 0 0 := Stand.of_body Bd
  have e0 : s₁.heap = h0 := by rw [← hh, Bd.state]; rfl
  have N0 := Fr.nil n0
  have K0 : Keep h0 h0 [a1] := Keep.refl h0 _
  refine own_go (B := s₁.setTop (mkF m 0 #[.val (.ref a1), .val (.int p2), .val (.int p3), .val (.int p4)] [])) (fun t k => castTop (efrm1 m a1 p2 p3 p4) k) ?_
  refine own_go (A := s₁.setTop (mkF m 0 #[.val (.ref a1), .val (.int p2), .val (.int p3), .val (.int p4)] [])) (B := s₁.setTop (mkF m 1 #[.val (.ref a1), .val (.int p2), .val (.int p3), .val (.int p4)] [(.ref a1)])) (fun t k => ?_) ?_
  · show Steps p.tables e below (s₁.setTop (mkF m 0 #[.val (.ref a1), .val (.int p2), .val (.int p3), .val (.int p4)] [])) _
    refine XS.aloadN X0.here hx rfl (hb hby d1_0) rfl rfl ?_
    exact k
  obtain ⟨T1, X1, e1, st1⟩ := initO X0 hx hZ hown (hw _ (List.mem_of_getElem? (i := 6) rfl)) (hw _ (List.mem_of_getElem? (i := 7) rfl)) (hw _ (List.mem_of_getElem? (i := 8) rfl)) e0 (g := (mkF m 1 #[.val (.ref a1), .val (.int p2), .val (.int p3), .val (.int p4)] [(.ref a1)])) rfl (by rw [hml]; rfl) rfl (hb hby d1_1) (by decide) (W := 0) (by show 2 * 0 + _ ≤ _; exact Nat.le_of_eq rfl) (by decide)
  refine own_go st1 ?_
  refine own_go (A := T1.setTop (mkF m 4 #[.val (.ref a1), .val (.int p2), .val (.int p3), .val (.int p4)] [])) (B := T1.setTop (mkF m 6 #[.val (.ref a1), .val (.int p2), .val (.int p3), .val (.int p4)] [(.int p2), (.ref a1)])) (fun t k => ?_) ?_
  · show Steps p.tables e below (T1.setTop (mkF m 4 #[.val (.ref a1), .val (.int p2), .val (.int p3), .val (.int p4)] [])) _
    refine XS.aloadN X1.here hx rfl (hb hby d1_4) rfl rfl ?_
    show Steps p.tables e below (T1.setTop (mkF m 5 #[.val (.ref a1), .val (.int p2), .val (.int p3), .val (.int p4)] [(.ref a1)])) _
    refine XS.iloadN X1.here hx rfl (hb hby d1_5) rfl ?_
    exact k
  obtain ⟨T2, h2, X2, e2, W2, st2⟩ := putF X1 hx hZ hown (host := "") (Or.inl (hw _ (List.mem_of_getElem? (i := 9) rfl))) Via.refl e1 P1 P0 (Or.inr ⟨(hw _ (List.mem_of_getElem? (i := 10) rfl)), rfl, hnm⟩) (hw _ (List.mem_of_getElem? (i := 1) rfl)) (ty := .int) (by decide) rfl rfl (g := (mkF m 6 #[.val (.ref a1), .val (.int p2), .val (.int p3), .val (.int p4)] [(.int p2), (.ref a1)])) rfl rfl (hb hby d1_6)
  have Q3 : Exa Z h2 a1 "com/example/mullion/mullion/layout/Extent" := P0.wr W2
  have Q4 : Fld Z h2 a1 "com/example/mullion/mullion/layout/Extent" "preferred" "I" (.int u2) := P2.other W2 (Or.inr (slot_ne (Or.inr (hw _ (List.mem_of_getElem? (i := 12) rfl))) (Or.inr (hw _ (List.mem_of_getElem? (i := 10) rfl))) (by decide) (t := .int) (t' := .int) (by decide) (by decide)))
  have Q5 : Fld Z h2 a1 "com/example/mullion/mullion/layout/Extent" "maximum" "I" (.int u3) := P3.other W2 (Or.inr (slot_ne (Or.inr (hw _ (List.mem_of_getElem? (i := 14) rfl))) (Or.inr (hw _ (List.mem_of_getElem? (i := 10) rfl))) (by decide) (t := .int) (t' := .int) (by decide) (by decide)))
  have U2 : Fld Z h2 a1 "com/example/mullion/mullion/layout/Extent" "minimum" "I" (.int p2) := P1.same W2
  have Z2 : n0 ≤ h2.size := Nat.le_trans Z0 (Keep.of_wr W2).1
  have N2 := Fr.snoc X2 N0 g_a1
  have K2 := K0.wr W2 (Or.inl (List.mem_of_getElem? (i := 0) rfl))
  refine own_go st2 ?_
  refine own_go (A := T2.setTop (mkF m 9 #[.val (.ref a1), .val (.int p2), .val (.int p3), .val (.int p4)] [])) (B := T2.setTop (mkF m 11 #[.val (.ref a1), .val (.int p2), .val (.int p3), .val (.int p4)] [(.int p3), (.ref a1)])) (fun t k => ?_) ?_
  · show Steps p.tables e below (T2.setTop (mkF m 9 #[.val (.ref a1), .val (.int p2), .val (.int p3), .val (.int p4)] [])) _
    refine XS.aloadN X2.here hx rfl (hb hby d1_9) rfl rfl ?_
    show Steps p.tables e below (T2.setTop (mkF m 10 #[.val (.ref a1), .val (.int p2), .val (.int p3), .val (.int p4)] [(.ref a1)])) _
    refine XS.iloadN X2.here hx rfl (hb hby d1_10) rfl ?_
    exact k
  obtain ⟨T6, h6, X6, e6, W6, st6⟩ := putF X2 hx hZ hown (host := "") (Or.inl (hw _ (List.mem_of_getElem? (i := 11) rfl))) Via.refl e2 Q4 Q3 (Or.inr ⟨(hw _ (List.mem_of_getElem? (i := 12) rfl)), rfl, hnm⟩) (hw _ (List.mem_of_getElem? (i := 1) rfl)) (ty := .int) (by decide) rfl rfl (g := (mkF m 11 #[.val (.ref a1), .val (.int p2), .val (.int p3), .val (.int p4)] [(.int p3), (.ref a1)])) rfl rfl (hb hby d1_11)
  have Q7 : Exa Z h6 a1 "com/example/mullion/mullion/layout/Extent" := Q3.wr W6
  have Q8 : Fld Z h6 a1 "com/example/mullion/mullion/layout/Extent" "maximum" "I" (.int u3) := Q5.other W6 (Or.inr (slot_ne (Or.inr (hw _ (List.mem_of_getElem? (i := 14) rfl))) (Or.inr (hw _ (List.mem_of_getElem? (i := 12) rfl))) (by decide) (t := .int) (t' := .int) (by decide) (by decide)))
  have Q9 : Fld Z h6 a1 "com/example/mullion/mullion/layout/Extent" "minimum" "I" (.int p2) := U2.other W6 (Or.inr (slot_ne (Or.inr (hw _ (List.mem_of_getElem? (i := 10) rfl))) (Or.inr (hw _ (List.mem_of_getElem? (i := 12) rfl))) (by decide) (t := .int) (t' := .int) (by decide) (by decide)))
  have U6 : Fld Z h6 a1 "com/example/mullion/mullion/layout/Extent" "preferred" "I" (.int p3) := Q4.same W6
  have Z6 : n0 ≤ h6.size := Nat.le_trans Z2 (Keep.of_wr W6).1
  have N6 := Fr.snoc X6 N2 g_a1
  have K6 := K2.wr W6 (Or.inl (List.mem_of_getElem? (i := 0) rfl))
  refine own_go st6 ?_
  refine own_go (A := T6.setTop (mkF m 14 #[.val (.ref a1), .val (.int p2), .val (.int p3), .val (.int p4)] [])) (B := T6.setTop (mkF m 16 #[.val (.ref a1), .val (.int p2), .val (.int p3), .val (.int p4)] [(.int p4), (.ref a1)])) (fun t k => ?_) ?_
  · show Steps p.tables e below (T6.setTop (mkF m 14 #[.val (.ref a1), .val (.int p2), .val (.int p3), .val (.int p4)] [])) _
    refine XS.aloadN X6.here hx rfl (hb hby d1_14) rfl rfl ?_
    show Steps p.tables e below (T6.setTop (mkF m 15 #[.val (.ref a1), .val (.int p2), .val (.int p3), .val (.int p4)] [(.ref a1)])) _
    refine XS.iloadN X6.here hx rfl (hb hby d1_15) rfl ?_
    exact k
  obtain ⟨T10, h10, X10, e10, W10, st10⟩ := putF X6 hx hZ hown (host := "") (Or.inl (hw _ (List.mem_of_getElem? (i := 13) rfl))) Via.refl e6 Q8 Q7 (Or.inr ⟨(hw _ (List.mem_of_getElem? (i := 14) rfl)), rfl, hnm⟩) (hw _ (List.mem_of_getElem? (i := 1) rfl)) (ty := .int) (by decide) rfl rfl (g := (mkF m 16 #[.val (.ref a1), .val (.int p2), .val (.int p3), .val (.int p4)] [(.int p4), (.ref a1)])) rfl rfl (hb hby d1_16)
  have Q11 : Exa Z h10 a1 "com/example/mullion/mullion/layout/Extent" := Q7.wr W10
  have Q12 : Fld Z h10 a1 "com/example/mullion/mullion/layout/Extent" "minimum" "I" (.int p2) := Q9.other W10 (Or.inr (slot_ne (Or.inr (hw _ (List.mem_of_getElem? (i := 10) rfl))) (Or.inr (hw _ (List.mem_of_getElem? (i := 14) rfl))) (by decide) (t := .int) (t' := .int) (by decide) (by decide)))
  have Q13 : Fld Z h10 a1 "com/example/mullion/mullion/layout/Extent" "preferred" "I" (.int p3) := U6.other W10 (Or.inr (slot_ne (Or.inr (hw _ (List.mem_of_getElem? (i := 12) rfl))) (Or.inr (hw _ (List.mem_of_getElem? (i := 14) rfl))) (by decide) (t := .int) (t' := .int) (by decide) (by decide)))
  have U10 : Fld Z h10 a1 "com/example/mullion/mullion/layout/Extent" "maximum" "I" (.int p4) := Q8.same W10
  have Z10 : n0 ≤ h10.size := Nat.le_trans Z6 (Keep.of_wr W10).1
  have N10 := Fr.snoc X10 N6 g_a1
  have K10 := K6.wr W10 (Or.inl (List.mem_of_getElem? (i := 0) rfl))
  refine own_go st10 ?_
  obtain ⟨fs, hr, hrun, hended, hW, hsame⟩ := X10.leave (v := none) (fun _ => rfl)
  refine ⟨_, _, ?_, hrun, hended, _, _, rfl, ?_, ⟨_, rfl⟩, hW, hsame.mono (by decide) (by decide)⟩
  · show Steps p.tables e below (T10.setTop (mkF m 19 #[.val (.ref a1), .val (.int p2), .val (.int p3), .val (.int p4)] [])) _
    exact X10.returnOut hx Bd.returns (hb hby d1_19) hr
  · show Qrm1 Z a1 p2 p3 p4 u1 u2 u3 h0 n0 _ T10.heap _
    rw [e10]
    exact ⟨rfl, N10, K10, Q12, Q13, U10⟩
def frm3 (p1 : Int32) (p2 : Int32) : Int32 := (if p2 < p1 then p2 else p1)
def Qrm3 (Z : State) (p1 : Int32) (p2 : Int32) (h0 : Heap) (n0 : Nat) (v : Option Value) (h : Heap) (L : List Loc) : Prop := v = some (.int (frm3 p1 p2)) ∧ Fr n0 L ∧ h = h0
theorem efrm3 (m : MethodId) (x0 : Int32) (x1 : Int32) : entryFrame m #[(.int x0), (.int x1)] 2 = mkF m 0 #[.val (.int x0), .val (.int x1)] [] := by first | (simp [entryFrame, mkF, argsToLocals, Value.category]; done) | rfl
set_option maxRecDepth 65536 in
set_option maxHeartbeats 40000000 in
theorem rm3 (l : Launch) (Z : State) (a0 : Array Value) (hw : ∀ d ∈ tables_1, d.before a0 Z = true) (ws : List Jvm.Cond) (p1 : Int32) (p2 : Int32) (h0 : Heap) (n0 : Nat) (Z0 : n0 ≤ h0.size)  :
    MetFree l (⟨"java/lang/Math", "min", "(II)I"⟩ : MethodName) (head1 (Jvm.Cond.code (⟨"java/lang/Math", "min", "(II)I"⟩ : MethodName) jdk_29_method_69_code 2 (some .int) :: ws) ({ frames := 0, cells := 0, slots := 0, locals := 0 } : Room)) (fun a U => a = #[(.int p1), (.int p2)] ∧ Z.Warmed39 U.vm ∧ U.heap = h0) (fun _ _ _ _ _ => True) (fun _ U o U' => ∃ v L, o = .returned v ∧ Qrm3 Z p1 p2 h0 n0 v U'.heap L ∧ FrameEnd U o U' L ({ frames := 0, cells := 0, slots := 0, locals := 0 } : Room).cells ({ frames := 0, cells := 0, slots := 0, locals := 0 } : Room).slots) := by
  refine MetFree.of_bodySF (Jvm.Free.JP.mathPlain rfl (by decide +kernel)) hisR ?_
  intro p e s m args below meth c s₁ Bd hml0 hP hK
  obtain ⟨rfl, hZ, hh⟩ := hP
  have hx := Bd.exec
  have hby := Bd.bytes
  have hml : c.maxLocals = 2 := hml0
  have hown : s.vm.findClass "java/lang/Math" = some m.cls := findClass_of_methodNamed Bd.named
  have hnm := (name_of_methodNamed Bd.named Bd.method).1
  have X0 : Stand p l e ({ frames := 0, cells := 0, slots := 0, locals := 0 } : Room) s m #[(.int p1), (.int p2)] below meth c s₁ [] 0 0 := Stand.of_body Bd
  have e0 : s₁.heap = h0 := by rw [← hh, Bd.state]; rfl
  have N0 := Fr.nil n0
  have K0 : Keep h0 h0 [] := Keep.refl h0 _
  refine own_go (B := s₁.setTop (mkF m 0 #[.val (.int p1), .val (.int p2)] [])) (fun t k => castTop (efrm3 m p1 p2) k) ?_
  refine own_go (A := s₁.setTop (mkF m 0 #[.val (.int p1), .val (.int p2)] [])) (B := s₁.setTop (mkF m 2 #[.val (.int p1), .val (.int p2)] [(.int p2), (.int p1)])) (fun t k => ?_) ?_
  · show Steps p.tables e below (s₁.setTop (mkF m 0 #[.val (.int p1), .val (.int p2)] [])) _
    refine XS.iloadN X0.here hx rfl (hb hby d3_0) rfl ?_
    show Steps p.tables e below (s₁.setTop (mkF m 1 #[.val (.int p1), .val (.int p2)] [(.int p1)])) _
    refine XS.iloadN X0.here hx rfl (hb hby d3_1) rfl ?_
    exact k
  by_cases hc2_14 : p2 < p1
  · refine own_go (A := s₁.setTop (mkF m 2 #[.val (.int p1), .val (.int p2)] [(.int p2), (.int p1)])) (B := s₁.setTop (mkF m 9 #[.val (.int p1), .val (.int p2)] [])) (fun t k => ?_) ?_
    · show Steps p.tables e below (s₁.setTop (mkF m 2 #[.val (.int p1), .val (.int p2)] [(.int p2), (.int p1)])) _
      refine XS.icmpYes X0.here hx rfl (pc0 := 2) (pc' := 9) rfl (hb hby d3_2) rfl (tlt hc2_14).2.2.1 (by decide) (by decide) ?_
      exact k
    refine own_go (A := s₁.setTop (mkF m 9 #[.val (.int p1), .val (.int p2)] [])) (B := s₁.setTop (mkF m 10 #[.val (.int p1), .val (.int p2)] [(.int p2)])) (fun t k => ?_) ?_
    · show Steps p.tables e below (s₁.setTop (mkF m 9 #[.val (.int p1), .val (.int p2)] [])) _
      refine XS.iloadN X0.here hx rfl (hb hby d3_9) rfl ?_
      exact k
    obtain ⟨fs, hr, hrun, hended, hW, hsame⟩ := X0.leave (v := some (.int p2)) (fun h => by rw [Bd.returns] at h; cases h)
    refine ⟨_, _, ?_, hrun, hended, _, _, rfl, ?_, ⟨_, rfl⟩, hW, hsame.mono (by decide) (by decide)⟩
    · show Steps p.tables e below (s₁.setTop (mkF m 10 #[.val (.int p1), .val (.int p2)] [(.int p2)])) _
      exact retOut X0 hx Bd.returns rfl (Or.inl ⟨rfl, Or.inl rfl, _, rfl⟩) (hb hby d3_10) hr
    · show Qrm3 Z p1 p2 h0 n0 _ s₁.heap _
      rw [e0]
      exact ⟨(by simp only [frm3, if_pos hc2_14]), N0, rfl⟩
  · refine own_go (A := s₁.setTop (mkF m 2 #[.val (.int p1), .val (.int p2)] [(.int p2), (.int p1)])) (B := s₁.setTop (mkF m 5 #[.val (.int p1), .val (.int p2)] [])) (fun t k => ?_) ?_
    · show Steps p.tables e below (s₁.setTop (mkF m 2 #[.val (.int p1), .val (.int p2)] [(.int p2), (.int p1)])) _
      refine XS.icmpNo X0.here hx rfl (hb hby d3_2) rfl (flt hc2_14).2.2.1 ?_
      exact k
    refine own_go (A := s₁.setTop (mkF m 5 #[.val (.int p1), .val (.int p2)] [])) (B := s₁.setTop (mkF m 10 #[.val (.int p1), .val (.int p2)] [(.int p1)])) (fun t k => ?_) ?_
    · show Steps p.tables e below (s₁.setTop (mkF m 5 #[.val (.int p1), .val (.int p2)] [])) _
      refine XS.iloadN X0.here hx rfl (hb hby d3_5) rfl ?_
      show Steps p.tables e below (s₁.setTop (mkF m 6 #[.val (.int p1), .val (.int p2)] [(.int p1)])) _
      refine XS.goto X0.here hx rfl (pc0 := 6) (pc' := 10) rfl (hb hby d3_6) (by decide) (by decide) ?_
      exact k
    obtain ⟨fs, hr, hrun, hended, hW, hsame⟩ := X0.leave (v := some (.int p1)) (fun h => by rw [Bd.returns] at h; cases h)
    refine ⟨_, _, ?_, hrun, hended, _, _, rfl, ?_, ⟨_, rfl⟩, hW, hsame.mono (by decide) (by decide)⟩
    · show Steps p.tables e below (s₁.setTop (mkF m 10 #[.val (.int p1), .val (.int p2)] [(.int p1)])) _
      exact retOut X0 hx Bd.returns rfl (Or.inl ⟨rfl, Or.inl rfl, _, rfl⟩) (hb hby d3_10) hr
    · show Qrm3 Z p1 p2 h0 n0 _ s₁.heap _
      rw [e0]
      exact ⟨(by simp only [frm3, if_neg hc2_14]), N0, rfl⟩
def frm4 (p1 : Int32) (p2 : Int32) : Int32 := (if p1 < p2 then p2 else p1)
def Qrm4 (Z : State) (p1 : Int32) (p2 : Int32) (h0 : Heap) (n0 : Nat) (v : Option Value) (h : Heap) (L : List Loc) : Prop := v = some (.int (frm4 p1 p2)) ∧ Fr n0 L ∧ h = h0
theorem efrm4 (m : MethodId) (x0 : Int32) (x1 : Int32) : entryFrame m #[(.int x0), (.int x1)] 2 = mkF m 0 #[.val (.int x0), .val (.int x1)] [] := by first | (simp [entryFrame, mkF, argsToLocals, Value.category]; done) | rfl
set_option maxRecDepth 65536 in
set_option maxHeartbeats 40000000 in
theorem rm4 (l : Launch) (Z : State) (a0 : Array Value) (hw : ∀ d ∈ tables_1, d.before a0 Z = true) (ws : List Jvm.Cond) (p1 : Int32) (p2 : Int32) (h0 : Heap) (n0 : Nat) (Z0 : n0 ≤ h0.size)  :
    MetFree l (⟨"java/lang/Math", "max", "(II)I"⟩ : MethodName) (head1 (Jvm.Cond.code (⟨"java/lang/Math", "max", "(II)I"⟩ : MethodName) jdk_29_method_65_code 2 (some .int) :: ws) ({ frames := 0, cells := 0, slots := 0, locals := 0 } : Room)) (fun a U => a = #[(.int p1), (.int p2)] ∧ Z.Warmed39 U.vm ∧ U.heap = h0) (fun _ _ _ _ _ => True) (fun _ U o U' => ∃ v L, o = .returned v ∧ Qrm4 Z p1 p2 h0 n0 v U'.heap L ∧ FrameEnd U o U' L ({ frames := 0, cells := 0, slots := 0, locals := 0 } : Room).cells ({ frames := 0, cells := 0, slots := 0, locals := 0 } : Room).slots) := by
  refine MetFree.of_bodySF (Jvm.Free.JP.mathPlain rfl (by decide +kernel)) hisR ?_
  intro p e s m args below meth c s₁ Bd hml0 hP hK
  obtain ⟨rfl, hZ, hh⟩ := hP
  have hx := Bd.exec
  have hby := Bd.bytes
  have hml : c.maxLocals = 2 := hml0
  have hown : s.vm.findClass "java/lang/Math" = some m.cls := findClass_of_methodNamed Bd.named
  have hnm := (name_of_methodNamed Bd.named Bd.method).1
  have X0 : Stand p l e ({ frames := 0, cells := 0, slots := 0, locals := 0 } : Room) s m #[(.int p1), (.int p2)] below meth c s₁ [] 0 0 := Stand.of_body Bd
  have e0 : s₁.heap = h0 := by rw [← hh, Bd.state]; rfl
  have N0 := Fr.nil n0
  have K0 : Keep h0 h0 [] := Keep.refl h0 _
  refine own_go (B := s₁.setTop (mkF m 0 #[.val (.int p1), .val (.int p2)] [])) (fun t k => castTop (efrm4 m p1 p2) k) ?_
  refine own_go (A := s₁.setTop (mkF m 0 #[.val (.int p1), .val (.int p2)] [])) (B := s₁.setTop (mkF m 2 #[.val (.int p1), .val (.int p2)] [(.int p2), (.int p1)])) (fun t k => ?_) ?_
  · show Steps p.tables e below (s₁.setTop (mkF m 0 #[.val (.int p1), .val (.int p2)] [])) _
    refine XS.iloadN X0.here hx rfl (hb hby d4_0) rfl ?_
    show Steps p.tables e below (s₁.setTop (mkF m 1 #[.val (.int p1), .val (.int p2)] [(.int p1)])) _
    refine XS.iloadN X0.here hx rfl (hb hby d4_1) rfl ?_
    exact k
  by_cases hc2_15 : p1 < p2
  · refine own_go (A := s₁.setTop (mkF m 2 #[.val (.int p1), .val (.int p2)] [(.int p2), (.int p1)])) (B := s₁.setTop (mkF m 9 #[.val (.int p1), .val (.int p2)] [])) (fun t k => ?_) ?_
    · show Steps p.tables e below (s₁.setTop (mkF m 2 #[.val (.int p1), .val (.int p2)] [(.int p2), (.int p1)])) _
      refine XS.icmpYes X0.here hx rfl (pc0 := 2) (pc' := 9) rfl (hb hby d4_2) rfl (tlt hc2_15).1 (by decide) (by decide) ?_
      exact k
    refine own_go (A := s₁.setTop (mkF m 9 #[.val (.int p1), .val (.int p2)] [])) (B := s₁.setTop (mkF m 10 #[.val (.int p1), .val (.int p2)] [(.int p2)])) (fun t k => ?_) ?_
    · show Steps p.tables e below (s₁.setTop (mkF m 9 #[.val (.int p1), .val (.int p2)] [])) _
      refine XS.iloadN X0.here hx rfl (hb hby d4_9) rfl ?_
      exact k
    obtain ⟨fs, hr, hrun, hended, hW, hsame⟩ := X0.leave (v := some (.int p2)) (fun h => by rw [Bd.returns] at h; cases h)
    refine ⟨_, _, ?_, hrun, hended, _, _, rfl, ?_, ⟨_, rfl⟩, hW, hsame.mono (by decide) (by decide)⟩
    · show Steps p.tables e below (s₁.setTop (mkF m 10 #[.val (.int p1), .val (.int p2)] [(.int p2)])) _
      exact retOut X0 hx Bd.returns rfl (Or.inl ⟨rfl, Or.inl rfl, _, rfl⟩) (hb hby d4_10) hr
    · show Qrm4 Z p1 p2 h0 n0 _ s₁.heap _
      rw [e0]
      exact ⟨(by simp only [frm4, if_pos hc2_15]), N0, rfl⟩
  · refine own_go (A := s₁.setTop (mkF m 2 #[.val (.int p1), .val (.int p2)] [(.int p2), (.int p1)])) (B := s₁.setTop (mkF m 5 #[.val (.int p1), .val (.int p2)] [])) (fun t k => ?_) ?_
    · show Steps p.tables e below (s₁.setTop (mkF m 2 #[.val (.int p1), .val (.int p2)] [(.int p2), (.int p1)])) _
      refine XS.icmpNo X0.here hx rfl (hb hby d4_2) rfl (flt hc2_15).1 ?_
      exact k
    refine own_go (A := s₁.setTop (mkF m 5 #[.val (.int p1), .val (.int p2)] [])) (B := s₁.setTop (mkF m 10 #[.val (.int p1), .val (.int p2)] [(.int p1)])) (fun t k => ?_) ?_
    · show Steps p.tables e below (s₁.setTop (mkF m 5 #[.val (.int p1), .val (.int p2)] [])) _
      refine XS.iloadN X0.here hx rfl (hb hby d4_5) rfl ?_
      show Steps p.tables e below (s₁.setTop (mkF m 6 #[.val (.int p1), .val (.int p2)] [(.int p1)])) _
      refine XS.goto X0.here hx rfl (pc0 := 6) (pc' := 10) rfl (hb hby d4_6) (by decide) (by decide) ?_
      exact k
    obtain ⟨fs, hr, hrun, hended, hW, hsame⟩ := X0.leave (v := some (.int p1)) (fun h => by rw [Bd.returns] at h; cases h)
    refine ⟨_, _, ?_, hrun, hended, _, _, rfl, ?_, ⟨_, rfl⟩, hW, hsame.mono (by decide) (by decide)⟩
    · show Steps p.tables e below (s₁.setTop (mkF m 10 #[.val (.int p1), .val (.int p2)] [(.int p1)])) _
      exact retOut X0 hx Bd.returns rfl (Or.inl ⟨rfl, Or.inl rfl, _, rfl⟩) (hb hby d4_10) hr
    · show Qrm4 Z p1 p2 h0 n0 _ s₁.heap _
      rw [e0]
      exact ⟨(by simp only [frm4, if_neg hc2_15]), N0, rfl⟩
def frm5 (w1 : Int32) (w2 : Int32) (w3 : Int32) : Int32 := (if w1 = w2 then (if w2 = w3 then (0 : Int32) else (1 : Int32)) else (1 : Int32))
def Qrm5 (Z : State) (a1 : Addr) (w1 : Int32) (w2 : Int32) (w3 : Int32) (h0 : Heap) (n0 : Nat) (v : Option Value) (h : Heap) (L : List Loc) : Prop := v = some (.int (frm5 w1 w2 w3)) ∧ Fr n0 L ∧ h = h0
theorem efrm5 (m : MethodId) (x0 : Addr) : entryFrame m #[(.ref x0)] 1 = mkF m 0 #[.val (.ref x0)] [] := by first | (simp [entryFrame, mkF, argsToLocals, Value.category]; done) | rfl
set_option maxRecDepth 65536 in
set_option maxHeartbeats 40000000 in
theorem rm5 (l : Launch) (Z : State) (a0 : Array Value) (hw : ∀ d ∈ tables_1, d.before a0 Z = true) (ws : List Jvm.Cond) (a1 : Addr) (w1 : Int32) (w2 : Int32) (w3 : Int32) (h0 : Heap) (n0 : Nat) (Z0 : n0 ≤ h0.size) (P0 : Fld Z h0 a1 "com/example/mullion/mullion/layout/Extent" "minimum" "I" (.int w1)) (P1 : Fld Z h0 a1 "com/example/mullion/mullion/layout/Extent" "preferred" "I" (.int w2)) (P2 : Fld Z h0 a1 "com/example/mullion/mullion/layout/Extent" "maximum" "I" (.int w3)) :
    MetFree l (⟨"com/example/mullion/mullion/layout/Extent", "resizable", "()Z"⟩ : MethodName) (head1 (Jvm.Cond.code (⟨"com/example/mullion/mullion/layout/Extent", "resizable", "()Z"⟩ : MethodName) prog_26_method_5_code 1 (some .boolean) :: ws) ({ frames := 0, cells := 0, slots := 0, locals := 0 } : Room)) (fun a U => a = #[(.ref a1)] ∧ Z.Warmed39 U.vm ∧ U.heap = h0) (fun _ _ _ _ _ => True) (fun _ U o U' => ∃ v L, o = .returned v ∧ Qrm5 Z a1 w1 w2 w3 h0 n0 v U'.heap L ∧ FrameEnd U o U' L ({ frames := 0, cells := 0, slots := 0, locals := 0 } : Room).cells ({ frames := 0, cells := 0, slots := 0, locals := 0 } : Room).slots) := by
  refine MetFree.of_bodySF (plainFor_of_name pn_0) hisR ?_
  intro p e s m args below meth c s₁ Bd hml0 hP hK
  obtain ⟨rfl, hZ, hh⟩ := hP
  have hx := Bd.exec
  have hby := Bd.bytes
  have hml : c.maxLocals = 1 := hml0
  have hown : s.vm.findClass "com/example/mullion/mullion/layout/Extent" = some m.cls := findClass_of_methodNamed Bd.named
  have hnm := (name_of_methodNamed Bd.named Bd.method).1
  have X0 : Stand p l e ({ frames := 0, cells := 0, slots := 0, locals := 0 } : Room) s m #[(.ref a1)] below meth c s₁ [] 0 0 := Stand.of_body Bd
  have e0 : s₁.heap = h0 := by rw [← hh, Bd.state]; rfl
  have N0 := Fr.nil n0
  have K0 : Keep h0 h0 [] := Keep.refl h0 _
  refine own_go (B := s₁.setTop (mkF m 0 #[.val (.ref a1)] [])) (fun t k => castTop (efrm5 m a1) k) ?_
  refine own_go (A := s₁.setTop (mkF m 0 #[.val (.ref a1)] [])) (B := s₁.setTop (mkF m 1 #[.val (.ref a1)] [(.ref a1)])) (fun t k => ?_) ?_
  · show Steps p.tables e below (s₁.setTop (mkF m 0 #[.val (.ref a1)] [])) _
    refine XS.aloadN X0.here hx rfl (hb hby d5_0) rfl rfl ?_
    exact k
  obtain ⟨T16, X16, e16, st16⟩ := getF X0 hx hZ hown (host := "") (Or.inl (hw _ (List.mem_of_getElem? (i := 9) rfl))) Via.refl e0 P0 (g := (mkF m 1 #[.val (.ref a1)] [(.ref a1)])) rfl rfl (hb hby d5_1)
  refine own_go st16 ?_
  refine own_go (A := T16.setTop (mkF m 4 #[.val (.ref a1)] [(.int w1)])) (B := T16.setTop (mkF m 5 #[.val (.ref a1)] [(.ref a1), (.int w1)])) (fun t k => ?_) ?_
  · show Steps p.tables e below (T16.setTop (mkF m 4 #[.val (.ref a1)] [(.int w1)])) _
    refine XS.aloadN X16.here hx rfl (hb hby d5_4) rfl rfl ?_
    exact k
  obtain ⟨T17, X17, e17, st17⟩ := getF X16 hx hZ hown (host := "") (Or.inl (hw _ (List.mem_of_getElem? (i := 11) rfl))) Via.refl e16 P1 (g := (mkF m 5 #[.val (.ref a1)] [(.ref a1), (.int w1)])) rfl rfl (hb hby d5_5)
  refine own_go st17 ?_
  by_cases hc8_18 : w1 = w2
  · refine own_go (A := T17.setTop (mkF m 8 #[.val (.ref a1)] [(.int w2), (.int w1)])) (B := T17.setTop (mkF m 11 #[.val (.ref a1)] [])) (fun t k => ?_) ?_
    · show Steps p.tables e below (T17.setTop (mkF m 8 #[.val (.ref a1)] [(.int w2), (.int w1)])) _
      refine XS.icmpNo X17.here hx rfl (hb hby d5_8) rfl (teq hc8_18).2 ?_
      exact k
    refine own_go (A := T17.setTop (mkF m 11 #[.val (.ref a1)] [])) (B := T17.setTop (mkF m 12 #[.val (.ref a1)] [(.ref a1)])) (fun t k => ?_) ?_
    · show Steps p.tables e below (T17.setTop (mkF m 11 #[.val (.ref a1)] [])) _
      refine XS.aloadN X17.here hx rfl (hb hby d5_11) rfl rfl ?_
      exact k
    obtain ⟨T19, X19, e19, st19⟩ := getF X17 hx hZ hown (host := "") (Or.inl (hw _ (List.mem_of_getElem? (i := 11) rfl))) Via.refl e17 P1 (g := (mkF m 12 #[.val (.ref a1)] [(.ref a1)])) rfl rfl (hb hby d5_12)
    refine own_go st19 ?_
    refine own_go (A := T19.setTop (mkF m 15 #[.val (.ref a1)] [(.int w2)])) (B := T19.setTop (mkF m 16 #[.val (.ref a1)] [(.ref a1), (.int w2)])) (fun t k => ?_) ?_
    · show Steps p.tables e below (T19.setTop (mkF m 15 #[.val (.ref a1)] [(.int w2)])) _
      refine XS.aloadN X19.here hx rfl (hb hby d5_15) rfl rfl ?_
      exact k
    obtain ⟨T20, X20, e20, st20⟩ := getF X19 hx hZ hown (host := "") (Or.inl (hw _ (List.mem_of_getElem? (i := 13) rfl))) Via.refl e19 P2 (g := (mkF m 16 #[.val (.ref a1)] [(.ref a1), (.int w2)])) rfl rfl (hb hby d5_16)
    refine own_go st20 ?_
    by_cases hc19_21 : w2 = w3
    · refine own_go (A := T20.setTop (mkF m 19 #[.val (.ref a1)] [(.int w3), (.int w2)])) (B := T20.setTop (mkF m 26 #[.val (.ref a1)] [])) (fun t k => ?_) ?_
      · show Steps p.tables e below (T20.setTop (mkF m 19 #[.val (.ref a1)] [(.int w3), (.int w2)])) _
        refine XS.icmpYes X20.here hx rfl (pc0 := 19) (pc' := 26) rfl (hb hby d5_19) rfl (teq hc19_21).1 (by decide) (by decide) ?_
        exact k
      refine own_go (A := T20.setTop (mkF m 26 #[.val (.ref a1)] [])) (B := T20.setTop (mkF m 27 #[.val (.ref a1)] [(.int (0 : Int32))])) (fun t k => ?_) ?_
      · show Steps p.tables e below (T20.setTop (mkF m 26 #[.val (.ref a1)] [])) _
        refine XS.iconst X20.here hx rfl (hb hby d5_26) ?_
        exact k
      obtain ⟨fs, hr, hrun, hended, hW, hsame⟩ := X20.leave (v := some (.int (0 : Int32))) (fun h => by rw [Bd.returns] at h; cases h)
      refine ⟨_, _, ?_, hrun, hended, _, _, rfl, ?_, ⟨_, rfl⟩, hW, hsame.mono (by decide) (by decide)⟩
      · show Steps p.tables e below (T20.setTop (mkF m 27 #[.val (.ref a1)] [(.int (0 : Int32))])) _
        exact retN X20 hx (t := .boolean) Bd.returns (by simp) (hb hby d5_27) hr
      · show Qrm5 Z a1 w1 w2 w3 h0 n0 _ T20.heap _
        rw [e20]
        exact ⟨(by simp only [frm5, if_pos hc8_18, if_pos hc19_21]), N0, rfl⟩
    · refine own_go (A := T20.setTop (mkF m 19 #[.val (.ref a1)] [(.int w3), (.int w2)])) (B := T20.setTop (mkF m 22 #[.val (.ref a1)] [])) (fun t k => ?_) ?_
      · show Steps p.tables e below (T20.setTop (mkF m 19 #[.val (.ref a1)] [(.int w3), (.int w2)])) _
        refine XS.icmpNo X20.here hx rfl (hb hby d5_19) rfl (feq hc19_21).1 ?_
        exact k
      refine own_go (A := T20.setTop (mkF m 22 #[.val (.ref a1)] [])) (B := T20.setTop (mkF m 27 #[.val (.ref a1)] [(.int (1 : Int32))])) (fun t k => ?_) ?_
      · show Steps p.tables e below (T20.setTop (mkF m 22 #[.val (.ref a1)] [])) _
        refine XS.iconst X20.here hx rfl (hb hby d5_22) ?_
        show Steps p.tables e below (T20.setTop (mkF m 23 #[.val (.ref a1)] [(.int (1 : Int32))])) _
        refine XS.goto X20.here hx rfl (pc0 := 23) (pc' := 27) rfl (hb hby d5_23) (by decide) (by decide) ?_
        exact k
      obtain ⟨fs, hr, hrun, hended, hW, hsame⟩ := X20.leave (v := some (.int (1 : Int32))) (fun h => by rw [Bd.returns] at h; cases h)
      refine ⟨_, _, ?_, hrun, hended, _, _, rfl, ?_, ⟨_, rfl⟩, hW, hsame.mono (by decide) (by decide)⟩
      · show Steps p.tables e below (T20.setTop (mkF m 27 #[.val (.ref a1)] [(.int (1 : Int32))])) _
        exact retN X20 hx (t := .boolean) Bd.returns (by simp) (hb hby d5_27) hr
      · show Qrm5 Z a1 w1 w2 w3 h0 n0 _ T20.heap _
        rw [e20]
        exact ⟨(by simp only [frm5, if_pos hc8_18, if_neg hc19_21]), N0, rfl⟩
  · refine own_go (A := T17.setTop (mkF m 8 #[.val (.ref a1)] [(.int w2), (.int w1)])) (B := T17.setTop (mkF m 22 #[.val (.ref a1)] [])) (fun t k => ?_) ?_
    · show Steps p.tables e below (T17.setTop (mkF m 8 #[.val (.ref a1)] [(.int w2), (.int w1)])) _
      refine XS.icmpYes X17.here hx rfl (pc0 := 8) (pc' := 22) rfl (hb hby d5_8) rfl (feq hc8_18).2 (by decide) (by decide) ?_
      exact k
    refine own_go (A := T17.setTop (mkF m 22 #[.val (.ref a1)] [])) (B := T17.setTop (mkF m 27 #[.val (.ref a1)] [(.int (1 : Int32))])) (fun t k => ?_) ?_
    · show Steps p.tables e below (T17.setTop (mkF m 22 #[.val (.ref a1)] [])) _
      refine XS.iconst X17.here hx rfl (hb hby d5_22) ?_
      show Steps p.tables e below (T17.setTop (mkF m 23 #[.val (.ref a1)] [(.int (1 : Int32))])) _
      refine XS.goto X17.here hx rfl (pc0 := 23) (pc' := 27) rfl (hb hby d5_23) (by decide) (by decide) ?_
      exact k
    obtain ⟨fs, hr, hrun, hended, hW, hsame⟩ := X17.leave (v := some (.int (1 : Int32))) (fun h => by rw [Bd.returns] at h; cases h)
    refine ⟨_, _, ?_, hrun, hended, _, _, rfl, ?_, ⟨_, rfl⟩, hW, hsame.mono (by decide) (by decide)⟩
    · show Steps p.tables e below (T17.setTop (mkF m 27 #[.val (.ref a1)] [(.int (1 : Int32))])) _
      exact retN X17 hx (t := .boolean) Bd.returns (by simp) (hb hby d5_27) hr
    · show Qrm5 Z a1 w1 w2 w3 h0 n0 _ T17.heap _
      rw [e17]
      exact ⟨(by simp only [frm5, if_neg hc8_18]), N0, rfl⟩
def frm0 (p1 : Int32) (p2 : Int32) (p3 : Int32) (p4 : Int32) : Int32 := (if (frm5 p1 (if (p4 &&& (1 : Int32)) = (0 : Int32) then p2 else p1) (if (p4 &&& (4 : Int32)) = (0 : Int32) then (if (p4 &&& (2 : Int32)) = (0 : Int32) then p3 else (if (p4 &&& (1 : Int32)) = (0 : Int32) then p2 else p1)) else p1)) = (if (frm3 p1 (frm3 (if (p4 &&& (1 : Int32)) = (0 : Int32) then p2 else p1) (if (p4 &&& (4 : Int32)) = (0 : Int32) then (if (p4 &&& (2 : Int32)) = (0 : Int32) then p3 else (if (p4 &&& (1 : Int32)) = (0 : Int32) then p2 else p1)) else p1))) = (frm4 p1 (frm4 (if (p4 &&& (1 : Int32)) = (0 : Int32) then p2 else p1) (if (p4 &&& (4 : Int32)) = (0 : Int32) then (if (p4 &&& (2 : Int32)) = (0 : Int32) then p3 else (if (p4 &&& (1 : Int32)) = (0 : Int32) then p2 else p1)) else p1))) then (0 : Int32) else (1 : Int32)) then (1 : Int32) else (0 : Int32))
def Qrm0 (Z : State) (p1 : Int32) (p2 : Int32) (p3 : Int32) (p4 : Int32) (h0 : Heap) (n0 : Nat) (v : Option Value) (h : Heap) (L : List Loc) : Prop := v = some (.int (frm0 p1 p2 p3 p4)) ∧ Fr n0 L
theorem efrm0 (m : MethodId) (x0 : Int32) (x1 : Int32) (x2 : Int32) (x3 : Int32) : entryFrame m #[(.int x0), (.int x1), (.int x2), (.int x3)] maxLocals = mkF m 0 #[.val (.int x0), .val (.int x1), .val (.int x2), .val (.int x3), .unset, .unset, .unset, .unset, .unset, .unset, .unset] [] := by first | (simp [entryFrame, mkF, argsToLocals, Value.category, maxLocals]; done) | rfl
set_option maxRecDepth 65536 in
set_option maxHeartbeats 40000000 in
theorem rm0 (l : Launch) (Z : State) (a0 : Array Value) (hw : ∀ d ∈ tables_1, d.before a0 Z = true) (ws : List Jvm.Cond) (p1 : Int32) (p2 : Int32) (p3 : Int32) (p4 : Int32) (h0 : Heap) (n0 : Nat) (Z0 : n0 ≤ h0.size)  :
    MetFree l x (head1 (Jvm.Cond.code x code maxLocals ret :: ws) room_1) (fun a U => a = #[(.int p1), (.int p2), (.int p3), (.int p4)] ∧ Z.Warmed39 U.vm ∧ U.heap = h0) (fun _ _ _ _ _ => True) (fun _ U o U' => ∃ v L, o = .returned v ∧ Qrm0 Z p1 p2 p3 p4 h0 n0 v U'.heap L ∧ FrameEnd U o U' L room_1.cells room_1.slots) := by
  refine MetFree.of_bodySF (plainFor_of_name pn_1) hisR ?_
  intro p e s m args below meth c s₁ Bd hml0 hP hK
  obtain ⟨rfl, hZ, hh⟩ := hP
  have hx := Bd.exec
  have hby := Bd.bytes
  have hml : c.maxLocals = 11 := hml0
  have hown : s.vm.findClass "com/example/mullion/mullion/layout/ExtentResizablePinLaw" = some m.cls := findClass_of_methodNamed Bd.named
  have hnm := (name_of_methodNamed Bd.named Bd.method).1
  have X0 : Stand p l e room_1 s m #[(.int p1), (.int p2), (.int p3), (.int p4)] below meth c s₁ [] 0 0 := Stand.of_body Bd
  have e0 : s₁.heap = h0 := by rw [← hh, Bd.state]; rfl
  have N0 := Fr.nil n0
  have K0 : Keep h0 h0 [] := Keep.refl h0 _
  refine own_go (B := s₁.setTop (mkF m 0 #[.val (.int p1), .val (.int p2), .val (.int p3), .val (.int p4), .unset, .unset, .unset, .unset, .unset, .unset, .unset] [])) (fun t k => castTop (efrm0 m p1 p2 p3 p4) k) ?_
  refine own_go (A := s₁.setTop (mkF m 0 #[.val (.int p1), .val (.int p2), .val (.int p3), .val (.int p4), .unset, .unset, .unset, .unset, .unset, .unset, .unset] [])) (B := s₁.setTop (mkF m 6 #[.val (.int p1), .val (.int p2), .val (.int p3), .val (.int p4), .val (.int p1), .unset, .unset, .unset, .unset, .unset, .unset] [(.int (p4 &&& (1 : Int32)))])) (fun t k => ?_) ?_
  · show Steps p.tables e below (s₁.setTop (mkF m 0 #[.val (.int p1), .val (.int p2), .val (.int p3), .val (.int p4), .unset, .unset, .unset, .unset, .unset, .unset, .unset] [])) _
    refine XS.iloadN X0.here hx rfl (hb hby at_0) rfl ?_
    show Steps p.tables e below (s₁.setTop (mkF m 1 #[.val (.int p1), .val (.int p2), .val (.int p3), .val (.int p4), .unset, .unset, .unset, .unset, .unset, .unset, .unset] [(.int p1)])) _
    refine XS.istore X0.here hx rfl (hb hby at_1) rfl (l' := #[.val (.int p1), .val (.int p2), .val (.int p3), .val (.int p4), .val (.int p1), .unset, .unset, .unset, .unset, .unset, .unset]) rfl ?_
    show Steps p.tables e below (s₁.setTop (mkF m 3 #[.val (.int p1), .val (.int p2), .val (.int p3), .val (.int p4), .val (.int p1), .unset, .unset, .unset, .unset, .unset, .unset] [])) _
    refine XS.iloadN X0.here hx rfl (hb hby at_3) rfl ?_
    show Steps p.tables e below (s₁.setTop (mkF m 4 #[.val (.int p1), .val (.int p2), .val (.int p3), .val (.int p4), .val (.int p1), .unset, .unset, .unset, .unset, .unset, .unset] [(.int p4)])) _
    refine XS.iconst X0.here hx rfl (hb hby at_4) ?_
    show Steps p.tables e below (s₁.setTop (mkF m 5 #[.val (.int p1), .val (.int p2), .val (.int p3), .val (.int p4), .val (.int p1), .unset, .unset, .unset, .unset, .unset, .unset] [(.int (1 : Int32)), (.int p4)])) _
    refine XS.iand X0.here hx rfl (hb hby at_5) rfl ?_
    exact k
  refine own_go (A := s₁.setTop (mkF m 6 #[.val (.int p1), .val (.int p2), .val (.int p3), .val (.int p4), .val (.int p1), .unset, .unset, .unset, .unset, .unset, .unset] [(.int (p4 &&& (1 : Int32)))])) (B := s₁.setTop (mkF m 14 #[.val (.int p1), .val (.int p2), .val (.int p3), .val (.int p4), .val (.int p1), .unset, .unset, .unset, .unset, .unset, .unset] [(.int (if (p4 &&& (1 : Int32)) = (0 : Int32) then p2 else p1))])) (fun t k => ?_) ?_
  · by_cases hc6_22 : (p4 &&& (1 : Int32)) = (0 : Int32)
    · show Steps p.tables e below (s₁.setTop (mkF m 6 #[.val (.int p1), .val (.int p2), .val (.int p3), .val (.int p4), .val (.int p1), .unset, .unset, .unset, .unset, .unset, .unset] [(.int (p4 &&& (1 : Int32)))])) _
      refine XS.ifYes X0.here hx rfl (pc0 := 6) (pc' := 13) rfl (hb hby at_6) rfl ((if0 _ _).trans (teq hc6_22).1) (by decide) (by decide) ?_
      show Steps p.tables e below (s₁.setTop (mkF m 13 #[.val (.int p1), .val (.int p2), .val (.int p3), .val (.int p4), .val (.int p1), .unset, .unset, .unset, .unset, .unset, .unset] [])) _
      refine XS.iloadN X0.here hx rfl (hb hby at_13) rfl ?_
      show Steps p.tables e below (s₁.setTop (mkF m 14 #[.val (.int p1), .val (.int p2), .val (.int p3), .val (.int p4), .val (.int p1), .unset, .unset, .unset, .unset, .unset, .unset] [(.int p2)])) _
      exact castTop (by first | (simp only [if_pos hc6_22]; done) | rfl) k
    · show Steps p.tables e below (s₁.setTop (mkF m 6 #[.val (.int p1), .val (.int p2), .val (.int p3), .val (.int p4), .val (.int p1), .unset, .unset, .unset, .unset, .unset, .unset] [(.int (p4 &&& (1 : Int32)))])) _
      refine XS.ifNo X0.here hx rfl (hb hby at_6) rfl ((if0 _ _).trans (feq hc6_22).1) ?_
      show Steps p.tables e below (s₁.setTop (mkF m 9 #[.val (.int p1), .val (.int p2), .val (.int p3), .val (.int p4), .val (.int p1), .unset, .unset, .unset, .unset, .unset, .unset] [])) _
      refine XS.iloadN X0.here hx rfl (hb hby at_9) rfl ?_
      show Steps p.tables e below (s₁.setTop (mkF m 10 #[.val (.int p1), .val (.int p2), .val (.int p3), .val (.int p4), .val (.int p1), .unset, .unset, .unset, .unset, .unset, .unset] [(.int p1)])) _
      refine XS.goto X0.here hx rfl (pc0 := 10) (pc' := 14) rfl (hb hby at_10) (by decide) (by decide) ?_
      show Steps p.tables e below (s₁.setTop (mkF m 14 #[.val (.int p1), .val (.int p2), .val (.int p3), .val (.int p4), .val (.int p1), .unset, .unset, .unset, .unset, .unset, .unset] [(.int p1)])) _
      exact castTop (by first | (simp only [if_neg hc6_22]; done) | rfl) k
  refine own_go (A := s₁.setTop (mkF m 14 #[.val (.int p1), .val (.int p2), .val (.int p3), .val (.int p4), .val (.int p1), .unset, .unset, .unset, .unset, .unset, .unset] [(.int (if (p4 &&& (1 : Int32)) = (0 : Int32) then p2 else p1))])) (B := s₁.setTop (mkF m 19 #[.val (.int p1), .val (.int p2), .val (.int p3), .val (.int p4), .val (.int p1), .val (.int (if (p4 &&& (1 : Int32)) = (0 : Int32) then p2 else p1)), .unset, .unset, .unset, .unset, .unset] [(.int (p4 &&& (2 : Int32)))])) (fun t k => ?_) ?_
  · show Steps p.tables e below (s₁.setTop (mkF m 14 #[.val (.int p1), .val (.int p2), .val (.int p3), .val (.int p4), .val (.int p1), .unset, .unset, .unset, .unset, .unset, .unset] [(.int (if (p4 &&& (1 : Int32)) = (0 : Int32) then p2 else p1))])) _
    refine XS.istore X0.here hx rfl (hb hby at_14) rfl (l' := #[.val (.int p1), .val (.int p2), .val (.int p3), .val (.int p4), .val (.int p1), .val (.int (if (p4 &&& (1 : Int32)) = (0 : Int32) then p2 else p1)), .unset, .unset, .unset, .unset, .unset]) rfl ?_
    show Steps p.tables e below (s₁.setTop (mkF m 16 #[.val (.int p1), .val (.int p2), .val (.int p3), .val (.int p4), .val (.int p1), .val (.int (if (p4 &&& (1 : Int32)) = (0 : Int32) then p2 else p1)), .unset, .unset, .unset, .unset, .unset] [])) _
    refine XS.iloadN X0.here hx rfl (hb hby at_16) rfl ?_
    show Steps p.tables e below (s₁.setTop (mkF m 17 #[.val (.int p1), .val (.int p2), .val (.int p3), .val (.int p4), .val (.int p1), .val (.int (if (p4 &&& (1 : Int32)) = (0 : Int32) then p2 else p1)), .unset, .unset, .unset, .unset, .unset] [(.int p4)])) _
    refine XS.iconst X0.here hx rfl (hb hby at_17) ?_
    show Steps p.tables e below (s₁.setTop (mkF m 18 #[.val (.int p1), .val (.int p2), .val (.int p3), .val (.int p4), .val (.int p1), .val (.int (if (p4 &&& (1 : Int32)) = (0 : Int32) then p2 else p1)), .unset, .unset, .unset, .unset, .unset] [(.int (2 : Int32)), (.int p4)])) _
    refine XS.iand X0.here hx rfl (hb hby at_18) rfl ?_
    exact k
  refine own_go (A := s₁.setTop (mkF m 19 #[.val (.int p1), .val (.int p2), .val (.int p3), .val (.int p4), .val (.int p1), .val (.int (if (p4 &&& (1 : Int32)) = (0 : Int32) then p2 else p1)), .unset, .unset, .unset, .unset, .unset] [(.int (p4 &&& (2 : Int32)))])) (B := s₁.setTop (mkF m 28 #[.val (.int p1), .val (.int p2), .val (.int p3), .val (.int p4), .val (.int p1), .val (.int (if (p4 &&& (1 : Int32)) = (0 : Int32) then p2 else p1)), .unset, .unset, .unset, .unset, .unset] [(.int (if (p4 &&& (2 : Int32)) = (0 : Int32) then p3 else (if (p4 &&& (1 : Int32)) = (0 : Int32) then p2 else p1)))])) (fun t k => ?_) ?_
  · by_cases hc19_23 : (p4 &&& (2 : Int32)) = (0 : Int32)
    · show Steps p.tables e below (s₁.setTop (mkF m 19 #[.val (.int p1), .val (.int p2), .val (.int p3), .val (.int p4), .val (.int p1), .val (.int (if (p4 &&& (1 : Int32)) = (0 : Int32) then p2 else p1)), .unset, .unset, .unset, .unset, .unset] [(.int (p4 &&& (2 : Int32)))])) _
      refine XS.ifYes X0.here hx rfl (pc0 := 19) (pc' := 27) rfl (hb hby at_19) rfl ((if0 _ _).trans (teq hc19_23).1) (by decide) (by decide) ?_
      show Steps p.tables e below (s₁.setTop (mkF m 27 #[.val (.int p1), .val (.int p2), .val (.int p3), .val (.int p4), .val (.int p1), .val (.int (if (p4 &&& (1 : Int32)) = (0 : Int32) then p2 else p1)), .unset, .unset, .unset, .unset, .unset] [])) _
      refine XS.iloadN X0.here hx rfl (hb hby at_27) rfl ?_
      show Steps p.tables e below (s₁.setTop (mkF m 28 #[.val (.int p1), .val (.int p2), .val (.int p3), .val (.int p4), .val (.int p1), .val (.int (if (p4 &&& (1 : Int32)) = (0 : Int32) then p2 else p1)), .unset, .unset, .unset, .unset, .unset] [(.int p3)])) _
      exact castTop (by first | (simp only [if_pos hc19_23]; done) | rfl) k
    · show Steps p.tables e below (s₁.setTop (mkF m 19 #[.val (.int p1), .val (.int p2), .val (.int p3), .val (.int p4), .val (.int p1), .val (.int (if (p4 &&& (1 : Int32)) = (0 : Int32) then p2 else p1)), .unset, .unset, .unset, .unset, .unset] [(.int (p4 &&& (2 : Int32)))])) _
      refine XS.ifNo X0.here hx rfl (hb hby at_19) rfl ((if0 _ _).trans (feq hc19_23).1) ?_
      show Steps p.tables e below (s₁.setTop (mkF m 22 #[.val (.int p1), .val (.int p2), .val (.int p3), .val (.int p4), .val (.int p1), .val (.int (if (p4 &&& (1 : Int32)) = (0 : Int32) then p2 else p1)), .unset, .unset, .unset, .unset, .unset] [])) _
      refine XS.iload X0.here hx rfl (hb hby at_22) rfl ?_
      show Steps p.tables e below (s₁.setTop (mkF m 24 #[.val (.int p1), .val (.int p2), .val (.int p3), .val (.int p4), .val (.int p1), .val (.int (if (p4 &&& (1 : Int32)) = (0 : Int32) then p2 else p1)), .unset, .unset, .unset, .unset, .unset] [(.int (if (p4 &&& (1 : Int32)) = (0 : Int32) then p2 else p1))])) _
      refine XS.goto X0.here hx rfl (pc0 := 24) (pc' := 28) rfl (hb hby at_24) (by decide) (by decide) ?_
      show Steps p.tables e below (s₁.setTop (mkF m 28 #[.val (.int p1), .val (.int p2), .val (.int p3), .val (.int p4), .val (.int p1), .val (.int (if (p4 &&& (1 : Int32)) = (0 : Int32) then p2 else p1)), .unset, .unset, .unset, .unset, .unset] [(.int (if (p4 &&& (1 : Int32)) = (0 : Int32) then p2 else p1))])) _
      exact castTop (by first | (simp only [if_neg hc19_23]; done) | rfl) k
  refine own_go (A := s₁.setTop (mkF m 28 #[.val (.int p1), .val (.int p2), .val (.int p3), .val (.int p4), .val (.int p1), .val (.int (if (p4 &&& (1 : Int32)) = (0 : Int32) then p2 else p1)), .unset, .unset, .unset, .unset, .unset] [(.int (if (p4 &&& (2 : Int32)) = (0 : Int32) then p3 else (if (p4 &&& (1 : Int32)) = (0 : Int32) then p2 else p1)))])) (B := s₁.setTop (mkF m 33 #[.val (.int p1), .val (.int p2), .val (.int p3), .val (.int p4), .val (.int p1), .val (.int (if (p4 &&& (1 : Int32)) = (0 : Int32) then p2 else p1)), .val (.int (if (p4 &&& (2 : Int32)) = (0 : Int32) then p3 else (if (p4 &&& (1 : Int32)) = (0 : Int32) then p2 else p1))), .unset, .unset, .unset, .unset] [(.int (p4 &&& (4 : Int32)))])) (fun t k => ?_) ?_
  · show Steps p.tables e below (s₁.setTop (mkF m 28 #[.val (.int p1), .val (.int p2), .val (.int p3), .val (.int p4), .val (.int p1), .val (.int (if (p4 &&& (1 : Int32)) = (0 : Int32) then p2 else p1)), .unset, .unset, .unset, .unset, .unset] [(.int (if (p4 &&& (2 : Int32)) = (0 : Int32) then p3 else (if (p4 &&& (1 : Int32)) = (0 : Int32) then p2 else p1)))])) _
    refine XS.istore X0.here hx rfl (hb hby at_28) rfl (l' := #[.val (.int p1), .val (.int p2), .val (.int p3), .val (.int p4), .val (.int p1), .val (.int (if (p4 &&& (1 : Int32)) = (0 : Int32) then p2 else p1)), .val (.int (if (p4 &&& (2 : Int32)) = (0 : Int32) then p3 else (if (p4 &&& (1 : Int32)) = (0 : Int32) then p2 else p1))), .unset, .unset, .unset, .unset]) rfl ?_
    show Steps p.tables e below (s₁.setTop (mkF m 30 #[.val (.int p1), .val (.int p2), .val (.int p3), .val (.int p4), .val (.int p1), .val (.int (if (p4 &&& (1 : Int32)) = (0 : Int32) then p2 else p1)), .val (.int (if (p4 &&& (2 : Int32)) = (0 : Int32) then p3 else (if (p4 &&& (1 : Int32)) = (0 : Int32) then p2 else p1))), .unset, .unset, .unset, .unset] [])) _
    refine XS.iloadN X0.here hx rfl (hb hby at_30) rfl ?_
    show Steps p.tables e below (s₁.setTop (mkF m 31 #[.val (.int p1), .val (.int p2), .val (.int p3), .val (.int p4), .val (.int p1), .val (.int (if (p4 &&& (1 : Int32)) = (0 : Int32) then p2 else p1)), .val (.int (if (p4 &&& (2 : Int32)) = (0 : Int32) then p3 else (if (p4 &&& (1 : Int32)) = (0 : Int32) then p2 else p1))), .unset, .unset, .unset, .unset] [(.int p4)])) _
    refine XS.iconst X0.here hx rfl (hb hby at_31) ?_
    show Steps p.tables e below (s₁.setTop (mkF m 32 #[.val (.int p1), .val (.int p2), .val (.int p3), .val (.int p4), .val (.int p1), .val (.int (if (p4 &&& (1 : Int32)) = (0 : Int32) then p2 else p1)), .val (.int (if (p4 &&& (2 : Int32)) = (0 : Int32) then p3 else (if (p4 &&& (1 : Int32)) = (0 : Int32) then p2 else p1))), .unset, .unset, .unset, .unset] [(.int (4 : Int32)), (.int p4)])) _
    refine XS.iand X0.here hx rfl (hb hby at_32) rfl ?_
    exact k
  refine own_go (A := s₁.setTop (mkF m 33 #[.val (.int p1), .val (.int p2), .val (.int p3), .val (.int p4), .val (.int p1), .val (.int (if (p4 &&& (1 : Int32)) = (0 : Int32) then p2 else p1)), .val (.int (if (p4 &&& (2 : Int32)) = (0 : Int32) then p3 else (if (p4 &&& (1 : Int32)) = (0 : Int32) then p2 else p1))), .unset, .unset, .unset, .unset] [(.int (p4 &&& (4 : Int32)))])) (B := s₁.setTop (mkF m 40 #[.val (.int p1), .val (.int p2), .val (.int p3), .val (.int p4), .val (.int p1), .val (.int (if (p4 &&& (1 : Int32)) = (0 : Int32) then p2 else p1)), .val (.int (if (p4 &&& (4 : Int32)) = (0 : Int32) then (if (p4 &&& (2 : Int32)) = (0 : Int32) then p3 else (if (p4 &&& (1 : Int32)) = (0 : Int32) then p2 else p1)) else p1)), .unset, .unset, .unset, .unset] [])) (fun t k => ?_) ?_
  · by_cases hc33_24 : (p4 &&& (4 : Int32)) = (0 : Int32)
    · show Steps p.tables e below (s₁.setTop (mkF m 33 #[.val (.int p1), .val (.int p2), .val (.int p3), .val (.int p4), .val (.int p1), .val (.int (if (p4 &&& (1 : Int32)) = (0 : Int32) then p2 else p1)), .val (.int (if (p4 &&& (2 : Int32)) = (0 : Int32) then p3 else (if (p4 &&& (1 : Int32)) = (0 : Int32) then p2 else p1))), .unset, .unset, .unset, .unset] [(.int (p4 &&& (4 : Int32)))])) _
      refine XS.ifYes X0.here hx rfl (pc0 := 33) (pc' := 40) rfl (hb hby at_33) rfl ((if0 _ _).trans (teq hc33_24).1) (by decide) (by decide) ?_
      show Steps p.tables e below (s₁.setTop (mkF m 40 #[.val (.int p1), .val (.int p2), .val (.int p3), .val (.int p4), .val (.int p1), .val (.int (if (p4 &&& (1 : Int32)) = (0 : Int32) then p2 else p1)), .val (.int (if (p4 &&& (2 : Int32)) = (0 : Int32) then p3 else (if (p4 &&& (1 : Int32)) = (0 : Int32) then p2 else p1))), .unset, .unset, .unset, .unset] [])) _
      exact castTop (by first | (simp only [if_pos hc33_24]; done) | rfl) k
    · show Steps p.tables e below (s₁.setTop (mkF m 33 #[.val (.int p1), .val (.int p2), .val (.int p3), .val (.int p4), .val (.int p1), .val (.int (if (p4 &&& (1 : Int32)) = (0 : Int32) then p2 else p1)), .val (.int (if (p4 &&& (2 : Int32)) = (0 : Int32) then p3 else (if (p4 &&& (1 : Int32)) = (0 : Int32) then p2 else p1))), .unset, .unset, .unset, .unset] [(.int (p4 &&& (4 : Int32)))])) _
      refine XS.ifNo X0.here hx rfl (hb hby at_33) rfl ((if0 _ _).trans (feq hc33_24).1) ?_
      show Steps p.tables e below (s₁.setTop (mkF m 36 #[.val (.int p1), .val (.int p2), .val (.int p3), .val (.int p4), .val (.int p1), .val (.int (if (p4 &&& (1 : Int32)) = (0 : Int32) then p2 else p1)), .val (.int (if (p4 &&& (2 : Int32)) = (0 : Int32) then p3 else (if (p4 &&& (1 : Int32)) = (0 : Int32) then p2 else p1))), .unset, .unset, .unset, .unset] [])) _
      refine XS.iload X0.here hx rfl (hb hby at_36) rfl ?_
      show Steps p.tables e below (s₁.setTop (mkF m 38 #[.val (.int p1), .val (.int p2), .val (.int p3), .val (.int p4), .val (.int p1), .val (.int (if (p4 &&& (1 : Int32)) = (0 : Int32) then p2 else p1)), .val (.int (if (p4 &&& (2 : Int32)) = (0 : Int32) then p3 else (if (p4 &&& (1 : Int32)) = (0 : Int32) then p2 else p1))), .unset, .unset, .unset, .unset] [(.int p1)])) _
      refine XS.istore X0.here hx rfl (hb hby at_38) rfl (l' := #[.val (.int p1), .val (.int p2), .val (.int p3), .val (.int p4), .val (.int p1), .val (.int (if (p4 &&& (1 : Int32)) = (0 : Int32) then p2 else p1)), .val (.int p1), .unset, .unset, .unset, .unset]) rfl ?_
      show Steps p.tables e below (s₁.setTop (mkF m 40 #[.val (.int p1), .val (.int p2), .val (.int p3), .val (.int p4), .val (.int p1), .val (.int (if (p4 &&& (1 : Int32)) = (0 : Int32) then p2 else p1)), .val (.int p1), .unset, .unset, .unset, .unset] [])) _
      exact castTop (by first | (simp only [if_neg hc33_24]; done) | rfl) k
  obtain ⟨T25, h25, X25, e25, E25, A25, D25, -, st25⟩ := newO X0 hx hZ hown (hw _ (List.mem_of_getElem? (i := 0) rfl)) (hw _ (List.mem_of_getElem? (i := 1) rfl)) (hw _ (List.mem_of_getElem? (i := 2) rfl)) e0 (g := (mkF m 40 #[.val (.int p1), .val (.int p2), .val (.int p3), .val (.int p4), .val (.int p1), .val (.int (if (p4 &&& (1 : Int32)) = (0 : Int32) then p2 else p1)), .val (.int (if (p4 &&& (4 : Int32)) = (0 : Int32) then (if (p4 &&& (2 : Int32)) = (0 : Int32) then p3 else (if (p4 &&& (1 : Int32)) = (0 : Int32) then p2 else p1)) else p1)), .unset, .unset, .unset, .unset] [])) rfl (hb hby at_40) (by decide) (by decide)
  obtain ⟨b25, g25⟩ : ∃ z, z = h0.size := ⟨_, rfl⟩
  rw [← g25] at A25 D25 st25
  have low25 : n0 ≤ b25 := Nat.le_trans Z0 (Nat.le_of_eq g25.symm)
  have sz25 : h0.size ≤ b25 := Nat.le_trans K0.1 (Nat.le_of_eq g25.symm)
  have Z25 : n0 ≤ h25.size := Nat.le_trans Z0 E25.1
  have K25 := K0.ext E25
  have D25_minimum_Extent : Fld Z h25 b25 "com/example/mullion/mullion/layout/Extent" "minimum" "I" (.int (0 : Int32)) := D25 (Or.inr (hw _ (List.mem_of_getElem? (i := 10) rfl))) (ty := .int) (by decide)
  have D25_preferred_Extent : Fld Z h25 b25 "com/example/mullion/mullion/layout/Extent" "preferred" "I" (.int (0 : Int32)) := D25 (Or.inr (hw _ (List.mem_of_getElem? (i := 12) rfl))) (ty := .int) (by decide)
  have D25_maximum_Extent : Fld Z h25 b25 "com/example/mullion/mullion/layout/Extent" "maximum" "I" (.int (0 : Int32)) := D25 (Or.inr (hw _ (List.mem_of_getElem? (i := 14) rfl))) (ty := .int) (by decide)
  refine own_go st25 ?_
  refine own_go (A := T25.setTop (mkF m 43 #[.val (.int p1), .val (.int p2), .val (.int p3), .val (.int p4), .val (.int p1), .val (.int (if (p4 &&& (1 : Int32)) = (0 : Int32) then p2 else p1)), .val (.int (if (p4 &&& (4 : Int32)) = (0 : Int32) then (if (p4 &&& (2 : Int32)) = (0 : Int32) then p3 else (if (p4 &&& (1 : Int32)) = (0 : Int32) then p2 else p1)) else p1)), .unset, .unset, .unset, .unset] [(.ref b25)])) (B := T25.setTop (mkF m 50 #[.val (.int p1), .val (.int p2), .val (.int p3), .val (.int p4), .val (.int p1), .val (.int (if (p4 &&& (1 : Int32)) = (0 : Int32) then p2 else p1)), .val (.int (if (p4 &&& (4 : Int32)) = (0 : Int32) then (if (p4 &&& (2 : Int32)) = (0 : Int32) then p3 else (if (p4 &&& (1 : Int32)) = (0 : Int32) then p2 else p1)) else p1)), .unset, .unset, .unset, .unset] [(.int (if (p4 &&& (4 : Int32)) = (0 : Int32) then (if (p4 &&& (2 : Int32)) = (0 : Int32) then p3 else (if (p4 &&& (1 : Int32)) = (0 : Int32) then p2 else p1)) else p1)), (.int (if (p4 &&& (1 : Int32)) = (0 : Int32) then p2 else p1)), (.int p1), (.ref b25), (.ref b25)])) (fun t k => ?_) ?_
  · show Steps p.tables e below (T25.setTop (mkF m 43 #[.val (.int p1), .val (.int p2), .val (.int p3), .val (.int p4), .val (.int p1), .val (.int (if (p4 &&& (1 : Int32)) = (0 : Int32) then p2 else p1)), .val (.int (if (p4 &&& (4 : Int32)) = (0 : Int32) then (if (p4 &&& (2 : Int32)) = (0 : Int32) then p3 else (if (p4 &&& (1 : Int32)) = (0 : Int32) then p2 else p1)) else p1)), .unset, .unset, .unset, .unset] [(.ref b25)])) _
    refine XS.dup X25.here hx rfl (hb hby at_43) rfl rfl ?_
    show Steps p.tables e below (T25.setTop (mkF m 44 #[.val (.int p1), .val (.int p2), .val (.int p3), .val (.int p4), .val (.int p1), .val (.int (if (p4 &&& (1 : Int32)) = (0 : Int32) then p2 else p1)), .val (.int (if (p4 &&& (4 : Int32)) = (0 : Int32) then (if (p4 &&& (2 : Int32)) = (0 : Int32) then p3 else (if (p4 &&& (1 : Int32)) = (0 : Int32) then p2 else p1)) else p1)), .unset, .unset, .unset, .unset] [(.ref b25), (.ref b25)])) _
    refine XS.iload X25.here hx rfl (hb hby at_44) rfl ?_
    show Steps p.tables e below (T25.setTop (mkF m 46 #[.val (.int p1), .val (.int p2), .val (.int p3), .val (.int p4), .val (.int p1), .val (.int (if (p4 &&& (1 : Int32)) = (0 : Int32) then p2 else p1)), .val (.int (if (p4 &&& (4 : Int32)) = (0 : Int32) then (if (p4 &&& (2 : Int32)) = (0 : Int32) then p3 else (if (p4 &&& (1 : Int32)) = (0 : Int32) then p2 else p1)) else p1)), .unset, .unset, .unset, .unset] [(.int p1), (.ref b25), (.ref b25)])) _
    refine XS.iload X25.here hx rfl (hb hby at_46) rfl ?_
    show Steps p.tables e below (T25.setTop (mkF m 48 #[.val (.int p1), .val (.int p2), .val (.int p3), .val (.int p4), .val (.int p1), .val (.int (if (p4 &&& (1 : Int32)) = (0 : Int32) then p2 else p1)), .val (.int (if (p4 &&& (4 : Int32)) = (0 : Int32) then (if (p4 &&& (2 : Int32)) = (0 : Int32) then p3 else (if (p4 &&& (1 : Int32)) = (0 : Int32) then p2 else p1)) else p1)), .unset, .unset, .unset, .unset] [(.int (if (p4 &&& (1 : Int32)) = (0 : Int32) then p2 else p1)), (.int p1), (.ref b25), (.ref b25)])) _
    refine XS.iload X25.here hx rfl (hb hby at_48) rfl ?_
    exact k
  obtain ⟨_, _, ⟨T26, L26, k26, n26⟩, -, X26, ⟨Lc26, hQ26, l26, y26, z26⟩, st26⟩ := X25.specialBack hx (y := (⟨"com/example/mullion/mullion/layout/Extent", "<init>", "(III)V"⟩ : MethodName)) rfl hown (mvT hZ (hw _ (List.mem_of_getElem? (i := 3) rfl))) (mvT hZ (hw _ (List.mem_of_getElem? (i := 4) rfl))) (mvT hZ (hw _ (List.mem_of_getElem? (i := 5) rfl))) (by decide) (backOf (W := 1) (rm1 l Z a0 hw [] b25 p1 (if (p4 &&& (1 : Int32)) = (0 : Int32) then p2 else p1) (if (p4 &&& (4 : Int32)) = (0 : Int32) then (if (p4 &&& (2 : Int32)) = (0 : Int32) then p3 else (if (p4 &&& (1 : Int32)) = (0 : Int32) then p2 else p1)) else p1) (0 : Int32) (0 : Int32) (0 : Int32) h25 n0 Z25 A25 D25_minimum_Extent D25_preferred_Extent D25_maximum_Extent low25) hZ (hw _ (List.mem_of_getElem? (i := 5) rfl)) (hw _ (List.mem_of_getElem? (i := 2) rfl)) (by decide) (by decide)) (g := (mkF m 50 #[.val (.int p1), .val (.int p2), .val (.int p3), .val (.int p4), .val (.int p1), .val (.int (if (p4 &&& (1 : Int32)) = (0 : Int32) then p2 else p1)), .val (.int (if (p4 &&& (4 : Int32)) = (0 : Int32) then (if (p4 &&& (2 : Int32)) = (0 : Int32) then p3 else (if (p4 &&& (1 : Int32)) = (0 : Int32) then p2 else p1)) else p1)), .unset, .unset, .unset, .unset] [(.int (if (p4 &&& (4 : Int32)) = (0 : Int32) then (if (p4 &&& (2 : Int32)) = (0 : Int32) then p3 else (if (p4 &&& (1 : Int32)) = (0 : Int32) then p2 else p1)) else p1)), (.int (if (p4 &&& (1 : Int32)) = (0 : Int32) then p2 else p1)), (.int p1), (.ref b25), (.ref b25)])) rfl (by rw [hml]; rfl) (Steps.refl _) (a := b25) (argsL := [(.int p1), (.int (if (p4 &&& (1 : Int32)) = (0 : Int32) then p2 else p1)), (.int (if (p4 &&& (4 : Int32)) = (0 : Int32) then (if (p4 &&& (2 : Int32)) = (0 : Int32) then p3 else (if (p4 &&& (1 : Int32)) = (0 : Int32) then p2 else p1)) else p1))]) (rest := [(.ref b25)]) (lenOf pd_0 rfl) rfl (by show 2 * 0 + _ ≤ _; exact Nat.le_of_eq rfl) (hb hby at_50) (fun _ _ => ⟨rfl, e25, (by decide : 1 + 0 ≤ _), (by decide : 3 + 0 ≤ _)⟩)
  dsimp only [Pt.U, Pt.locs, Pt.cells, Pt.slots] at X26 l26 y26 z26 st26 hQ26
  subst l26 y26 z26
  obtain ⟨rfl, Nq26, Kq26, U26_0, U26_1, U26_2⟩ := hQ26
  have Q27 : Exa Z T26.heap b25 "com/example/mullion/mullion/layout/Extent" := A25.keep Kq26
  have Z26 : n0 ≤ T26.heap.size := Nat.le_trans Z25 Kq26.1
  have K26 : Keep h0 T26.heap [] := K25.trans Kq26 (allS (Or.inr sz25) all0)
  have N26 := Fr.app N0 Nq26
  refine own_go (A := _) (B := T26.setTop (mkF m 53 #[.val (.int p1), .val (.int p2), .val (.int p3), .val (.int p4), .val (.int p1), .val (.int (if (p4 &&& (1 : Int32)) = (0 : Int32) then p2 else p1)), .val (.int (if (p4 &&& (4 : Int32)) = (0 : Int32) then (if (p4 &&& (2 : Int32)) = (0 : Int32) then p3 else (if (p4 &&& (1 : Int32)) = (0 : Int32) then p2 else p1)) else p1)), .unset, .unset, .unset, .unset] [(.ref b25)])) (fun t k => st26.trans k) ?_
  refine own_go (A := T26.setTop (mkF m 53 #[.val (.int p1), .val (.int p2), .val (.int p3), .val (.int p4), .val (.int p1), .val (.int (if (p4 &&& (1 : Int32)) = (0 : Int32) then p2 else p1)), .val (.int (if (p4 &&& (4 : Int32)) = (0 : Int32) then (if (p4 &&& (2 : Int32)) = (0 : Int32) then p3 else (if (p4 &&& (1 : Int32)) = (0 : Int32) then p2 else p1)) else p1)), .unset, .unset, .unset, .unset] [(.ref b25)])) (B := T26.setTop (mkF m 61 #[.val (.int p1), .val (.int p2), .val (.int p3), .val (.int p4), .val (.int p1), .val (.int (if (p4 &&& (1 : Int32)) = (0 : Int32) then p2 else p1)), .val (.int (if (p4 &&& (4 : Int32)) = (0 : Int32) then (if (p4 &&& (2 : Int32)) = (0 : Int32) then p3 else (if (p4 &&& (1 : Int32)) = (0 : Int32) then p2 else p1)) else p1)), .val (.ref b25), .unset, .unset, .unset] [(.int (if (p4 &&& (4 : Int32)) = (0 : Int32) then (if (p4 &&& (2 : Int32)) = (0 : Int32) then p3 else (if (p4 &&& (1 : Int32)) = (0 : Int32) then p2 else p1)) else p1)), (.int (if (p4 &&& (1 : Int32)) = (0 : Int32) then p2 else p1)), (.int p1)])) (fun t k => ?_) ?_
  · show Steps p.tables e below (T26.setTop (mkF m 53 #[.val (.int p1), .val (.int p2), .val (.int p3), .val (.int p4), .val (.int p1), .val (.int (if (p4 &&& (1 : Int32)) = (0 : Int32) then p2 else p1)), .val (.int (if (p4 &&& (4 : Int32)) = (0 : Int32) then (if (p4 &&& (2 : Int32)) = (0 : Int32) then p3 else (if (p4 &&& (1 : Int32)) = (0 : Int32) then p2 else p1)) else p1)), .unset, .unset, .unset, .unset] [(.ref b25)])) _
    refine XS.astore X26.here hx rfl (hb hby at_53) rfl rfl (l' := #[.val (.int p1), .val (.int p2), .val (.int p3), .val (.int p4), .val (.int p1), .val (.int (if (p4 &&& (1 : Int32)) = (0 : Int32) then p2 else p1)), .val (.int (if (p4 &&& (4 : Int32)) = (0 : Int32) then (if (p4 &&& (2 : Int32)) = (0 : Int32) then p3 else (if (p4 &&& (1 : Int32)) = (0 : Int32) then p2 else p1)) else p1)), .val (.ref b25), .unset, .unset, .unset]) rfl ?_
    show Steps p.tables e below (T26.setTop (mkF m 55 #[.val (.int p1), .val (.int p2), .val (.int p3), .val (.int p4), .val (.int p1), .val (.int (if (p4 &&& (1 : Int32)) = (0 : Int32) then p2 else p1)), .val (.int (if (p4 &&& (4 : Int32)) = (0 : Int32) then (if (p4 &&& (2 : Int32)) = (0 : Int32) then p3 else (if (p4 &&& (1 : Int32)) = (0 : Int32) then p2 else p1)) else p1)), .val (.ref b25), .unset, .unset, .unset] [])) _
    refine XS.iload X26.here hx rfl (hb hby at_55) rfl ?_
    show Steps p.tables e below (T26.setTop (mkF m 57 #[.val (.int p1), .val (.int p2), .val (.int p3), .val (.int p4), .val (.int p1), .val (.int (if (p4 &&& (1 : Int32)) = (0 : Int32) then p2 else p1)), .val (.int (if (p4 &&& (4 : Int32)) = (0 : Int32) then (if (p4 &&& (2 : Int32)) = (0 : Int32) then p3 else (if (p4 &&& (1 : Int32)) = (0 : Int32) then p2 else p1)) else p1)), .val (.ref b25), .unset, .unset, .unset] [(.int p1)])) _
    refine XS.iload X26.here hx rfl (hb hby at_57) rfl ?_
    show Steps p.tables e below (T26.setTop (mkF m 59 #[.val (.int p1), .val (.int p2), .val (.int p3), .val (.int p4), .val (.int p1), .val (.int (if (p4 &&& (1 : Int32)) = (0 : Int32) then p2 else p1)), .val (.int (if (p4 &&& (4 : Int32)) = (0 : Int32) then (if (p4 &&& (2 : Int32)) = (0 : Int32) then p3 else (if (p4 &&& (1 : Int32)) = (0 : Int32) then p2 else p1)) else p1)), .val (.ref b25), .unset, .unset, .unset] [(.int (if (p4 &&& (1 : Int32)) = (0 : Int32) then p2 else p1)), (.int p1)])) _
    refine XS.iload X26.here hx rfl (hb hby at_59) rfl ?_
    exact k
  obtain ⟨_, _, ⟨T28, L28, k28, n28⟩, -, X28, ⟨Lc28, hQ28, l28, y28, z28⟩, st28⟩ := Jvm.LawKit.callS X26 hx (y := (⟨"java/lang/Math", "min", "(II)I"⟩ : MethodName)) hown (mvT hZ (hw _ (List.mem_of_getElem? (i := 15) rfl))) (mvT hZ (hw _ (List.mem_of_getElem? (i := 16) rfl))) (mvT hZ (hw _ (List.mem_of_getElem? (i := 17) rfl))) (mvT hZ (hw _ (List.mem_of_getElem? (i := 18) rfl))) (by decide) (backOf (W := 1) (rm3 l Z a0 hw [] (if (p4 &&& (1 : Int32)) = (0 : Int32) then p2 else p1) (if (p4 &&& (4 : Int32)) = (0 : Int32) then (if (p4 &&& (2 : Int32)) = (0 : Int32) then p3 else (if (p4 &&& (1 : Int32)) = (0 : Int32) then p2 else p1)) else p1) T26.heap n0 Z26 ) hZ (hw _ (List.mem_of_getElem? (i := 18) rfl)) (hw _ (List.mem_of_getElem? (i := 17) rfl)) (by decide) (by decide)) (g := (mkF m 61 #[.val (.int p1), .val (.int p2), .val (.int p3), .val (.int p4), .val (.int p1), .val (.int (if (p4 &&& (1 : Int32)) = (0 : Int32) then p2 else p1)), .val (.int (if (p4 &&& (4 : Int32)) = (0 : Int32) then (if (p4 &&& (2 : Int32)) = (0 : Int32) then p3 else (if (p4 &&& (1 : Int32)) = (0 : Int32) then p2 else p1)) else p1)), .val (.ref b25), .unset, .unset, .unset] [(.int (if (p4 &&& (4 : Int32)) = (0 : Int32) then (if (p4 &&& (2 : Int32)) = (0 : Int32) then p3 else (if (p4 &&& (1 : Int32)) = (0 : Int32) then p2 else p1)) else p1)), (.int (if (p4 &&& (1 : Int32)) = (0 : Int32) then p2 else p1)), (.int p1)])) rfl (by rw [hml]; rfl) (argsL := [(.int (if (p4 &&& (1 : Int32)) = (0 : Int32) then p2 else p1)), (.int (if (p4 &&& (4 : Int32)) = (0 : Int32) then (if (p4 &&& (2 : Int32)) = (0 : Int32) then p3 else (if (p4 &&& (1 : Int32)) = (0 : Int32) then p2 else p1)) else p1))]) (rest := [(.int p1)]) (lenOf pd_1 rfl) rfl (by show 2 * 0 + _ ≤ _; exact Nat.le_of_eq rfl) (hb hby at_61) (fun _ _ => ⟨rfl, rfl, (by decide : 1 + 0 ≤ _), (by decide : 3 + 0 ≤ _)⟩)
  dsimp only [Pt.U, Pt.locs, Pt.cells, Pt.slots] at X28 l28 y28 z28 st28 hQ28
  subst l28 y28 z28
  obtain ⟨rfl, Nq28, e28⟩ := hQ28
  have N28 := Fr.app N26 Nq28
  refine own_go (A := _) (B := T28.setTop (mkF m 64 #[.val (.int p1), .val (.int p2), .val (.int p3), .val (.int p4), .val (.int p1), .val (.int (if (p4 &&& (1 : Int32)) = (0 : Int32) then p2 else p1)), .val (.int (if (p4 &&& (4 : Int32)) = (0 : Int32) then (if (p4 &&& (2 : Int32)) = (0 : Int32) then p3 else (if (p4 &&& (1 : Int32)) = (0 : Int32) then p2 else p1)) else p1)), .val (.ref b25), .unset, .unset, .unset] [(.int (frm3 (if (p4 &&& (1 : Int32)) = (0 : Int32) then p2 else p1) (if (p4 &&& (4 : Int32)) = (0 : Int32) then (if (p4 &&& (2 : Int32)) = (0 : Int32) then p3 else (if (p4 &&& (1 : Int32)) = (0 : Int32) then p2 else p1)) else p1))), (.int p1)])) st28 ?_
  obtain ⟨_, _, ⟨T29, L29, k29, n29⟩, -, X29, ⟨Lc29, hQ29, l29, y29, z29⟩, st29⟩ := Jvm.LawKit.callS X28 hx (y := (⟨"java/lang/Math", "min", "(II)I"⟩ : MethodName)) hown (mvT hZ (hw _ (List.mem_of_getElem? (i := 15) rfl))) (mvT hZ (hw _ (List.mem_of_getElem? (i := 16) rfl))) (mvT hZ (hw _ (List.mem_of_getElem? (i := 17) rfl))) (mvT hZ (hw _ (List.mem_of_getElem? (i := 18) rfl))) (by decide) (backOf (W := 0) (rm3 l Z a0 hw [] p1 (frm3 (if (p4 &&& (1 : Int32)) = (0 : Int32) then p2 else p1) (if (p4 &&& (4 : Int32)) = (0 : Int32) then (if (p4 &&& (2 : Int32)) = (0 : Int32) then p3 else (if (p4 &&& (1 : Int32)) = (0 : Int32) then p2 else p1)) else p1)) T26.heap n0 Z26 ) hZ (hw _ (List.mem_of_getElem? (i := 18) rfl)) (hw _ (List.mem_of_getElem? (i := 17) rfl)) (by decide) (by decide)) (g := (mkF m 64 #[.val (.int p1), .val (.int p2), .val (.int p3), .val (.int p4), .val (.int p1), .val (.int (if (p4 &&& (1 : Int32)) = (0 : Int32) then p2 else p1)), .val (.int (if (p4 &&& (4 : Int32)) = (0 : Int32) then (if (p4 &&& (2 : Int32)) = (0 : Int32) then p3 else (if (p4 &&& (1 : Int32)) = (0 : Int32) then p2 else p1)) else p1)), .val (.ref b25), .unset, .unset, .unset] [(.int (frm3 (if (p4 &&& (1 : Int32)) = (0 : Int32) then p2 else p1) (if (p4 &&& (4 : Int32)) = (0 : Int32) then (if (p4 &&& (2 : Int32)) = (0 : Int32) then p3 else (if (p4 &&& (1 : Int32)) = (0 : Int32) then p2 else p1)) else p1))), (.int p1)])) rfl (by rw [hml]; rfl) (argsL := [(.int p1), (.int (frm3 (if (p4 &&& (1 : Int32)) = (0 : Int32) then p2 else p1) (if (p4 &&& (4 : Int32)) = (0 : Int32) then (if (p4 &&& (2 : Int32)) = (0 : Int32) then p3 else (if (p4 &&& (1 : Int32)) = (0 : Int32) then p2 else p1)) else p1)))]) (rest := []) (lenOf pd_1 rfl) rfl (by show 2 * 0 + _ ≤ _; exact Nat.le_of_eq rfl) (hb hby at_64) (fun _ _ => ⟨rfl, e28, (by decide : 1 + 0 ≤ _), (by decide : 3 + 0 ≤ _)⟩)
  dsimp only [Pt.U, Pt.locs, Pt.cells, Pt.slots] at X29 l29 y29 z29 st29 hQ29
  subst l29 y29 z29
  obtain ⟨rfl, Nq29, e29⟩ := hQ29
  have N29 := Fr.app N28 Nq29
  refine own_go (A := _) (B := T29.setTop (mkF m 67 #[.val (.int p1), .val (.int p2), .val (.int p3), .val (.int p4), .val (.int p1), .val (.int (if (p4 &&& (1 : Int32)) = (0 : Int32) then p2 else p1)), .val (.int (if (p4 &&& (4 : Int32)) = (0 : Int32) then (if (p4 &&& (2 : Int32)) = (0 : Int32) then p3 else (if (p4 &&& (1 : Int32)) = (0 : Int32) then p2 else p1)) else p1)), .val (.ref b25), .unset, .unset, .unset] [(.int (frm3 p1 (frm3 (if (p4 &&& (1 : Int32)) = (0 : Int32) then p2 else p1) (if (p4 &&& (4 : Int32)) = (0 : Int32) then (if (p4 &&& (2 : Int32)) = (0 : Int32) then p3 else (if (p4 &&& (1 : Int32)) = (0 : Int32) then p2 else p1)) else p1))))])) st29 ?_
  refine own_go (A := T29.setTop (mkF m 67 #[.val (.int p1), .val (.int p2), .val (.int p3), .val (.int p4), .val (.int p1), .val (.int (if (p4 &&& (1 : Int32)) = (0 : Int32) then p2 else p1)), .val (.int (if (p4 &&& (4 : Int32)) = (0 : Int32) then (if (p4 &&& (2 : Int32)) = (0 : Int32) then p3 else (if (p4 &&& (1 : Int32)) = (0 : Int32) then p2 else p1)) else p1)), .val (.ref b25), .unset, .unset, .unset] [(.int (frm3 p1 (frm3 (if (p4 &&& (1 : Int32)) = (0 : Int32) then p2 else p1) (if (p4 &&& (4 : Int32)) = (0 : Int32) then (if (p4 &&& (2 : Int32)) = (0 : Int32) then p3 else (if (p4 &&& (1 : Int32)) = (0 : Int32) then p2 else p1)) else p1))))])) (B := T29.setTop (mkF m 75 #[.val (.int p1), .val (.int p2), .val (.int p3), .val (.int p4), .val (.int p1), .val (.int (if (p4 &&& (1 : Int32)) = (0 : Int32) then p2 else p1)), .val (.int (if (p4 &&& (4 : Int32)) = (0 : Int32) then (if (p4 &&& (2 : Int32)) = (0 : Int32) then p3 else (if (p4 &&& (1 : Int32)) = (0 : Int32) then p2 else p1)) else p1)), .val (.ref b25), .val (.int (frm3 p1 (frm3 (if (p4 &&& (1 : Int32)) = (0 : Int32) then p2 else p1) (if (p4 &&& (4 : Int32)) = (0 : Int32) then (if (p4 &&& (2 : Int32)) = (0 : Int32) then p3 else (if (p4 &&& (1 : Int32)) = (0 : Int32) then p2 else p1)) else p1)))), .unset, .unset] [(.int (if (p4 &&& (4 : Int32)) = (0 : Int32) then (if (p4 &&& (2 : Int32)) = (0 : Int32) then p3 else (if (p4 &&& (1 : Int32)) = (0 : Int32) then p2 else p1)) else p1)), (.int (if (p4 &&& (1 : Int32)) = (0 : Int32) then p2 else p1)), (.int p1)])) (fun t k => ?_) ?_
  · show Steps p.tables e below (T29.setTop (mkF m 67 #[.val (.int p1), .val (.int p2), .val (.int p3), .val (.int p4), .val (.int p1), .val (.int (if (p4 &&& (1 : Int32)) = (0 : Int32) then p2 else p1)), .val (.int (if (p4 &&& (4 : Int32)) = (0 : Int32) then (if (p4 &&& (2 : Int32)) = (0 : Int32) then p3 else (if (p4 &&& (1 : Int32)) = (0 : Int32) then p2 else p1)) else p1)), .val (.ref b25), .unset, .unset, .unset] [(.int (frm3 p1 (frm3 (if (p4 &&& (1 : Int32)) = (0 : Int32) then p2 else p1) (if (p4 &&& (4 : Int32)) = (0 : Int32) then (if (p4 &&& (2 : Int32)) = (0 : Int32) then p3 else (if (p4 &&& (1 : Int32)) = (0 : Int32) then p2 else p1)) else p1))))])) _
    refine XS.istore X29.here hx rfl (hb hby at_67) rfl (l' := #[.val (.int p1), .val (.int p2), .val (.int p3), .val (.int p4), .val (.int p1), .val (.int (if (p4 &&& (1 : Int32)) = (0 : Int32) then p2 else p1)), .val (.int (if (p4 &&& (4 : Int32)) = (0 : Int32) then (if (p4 &&& (2 : Int32)) = (0 : Int32) then p3 else (if (p4 &&& (1 : Int32)) = (0 : Int32) then p2 else p1)) else p1)), .val (.ref b25), .val (.int (frm3 p1 (frm3 (if (p4 &&& (1 : Int32)) = (0 : Int32) then p2 else p1) (if (p4 &&& (4 : Int32)) = (0 : Int32) then (if (p4 &&& (2 : Int32)) = (0 : Int32) then p3 else (if (p4 &&& (1 : Int32)) = (0 : Int32) then p2 else p1)) else p1)))), .unset, .unset]) rfl ?_
    show Steps p.tables e below (T29.setTop (mkF m 69 #[.val (.int p1), .val (.int p2), .val (.int p3), .val (.int p4), .val (.int p1), .val (.int (if (p4 &&& (1 : Int32)) = (0 : Int32) then p2 else p1)), .val (.int (if (p4 &&& (4 : Int32)) = (0 : Int32) then (if (p4 &&& (2 : Int32)) = (0 : Int32) then p3 else (if (p4 &&& (1 : Int32)) = (0 : Int32) then p2 else p1)) else p1)), .val (.ref b25), .val (.int (frm3 p1 (frm3 (if (p4 &&& (1 : Int32)) = (0 : Int32) then p2 else p1) (if (p4 &&& (4 : Int32)) = (0 : Int32) then (if (p4 &&& (2 : Int32)) = (0 : Int32) then p3 else (if (p4 &&& (1 : Int32)) = (0 : Int32) then p2 else p1)) else p1)))), .unset, .unset] [])) _
    refine XS.iload X29.here hx rfl (hb hby at_69) rfl ?_
    show Steps p.tables e below (T29.setTop (mkF m 71 #[.val (.int p1), .val (.int p2), .val (.int p3), .val (.int p4), .val (.int p1), .val (.int (if (p4 &&& (1 : Int32)) = (0 : Int32) then p2 else p1)), .val (.int (if (p4 &&& (4 : Int32)) = (0 : Int32) then (if (p4 &&& (2 : Int32)) = (0 : Int32) then p3 else (if (p4 &&& (1 : Int32)) = (0 : Int32) then p2 else p1)) else p1)), .val (.ref b25), .val (.int (frm3 p1 (frm3 (if (p4 &&& (1 : Int32)) = (0 : Int32) then p2 else p1) (if (p4 &&& (4 : Int32)) = (0 : Int32) then (if (p4 &&& (2 : Int32)) = (0 : Int32) then p3 else (if (p4 &&& (1 : Int32)) = (0 : Int32) then p2 else p1)) else p1)))), .unset, .unset] [(.int p1)])) _
    refine XS.iload X29.here hx rfl (hb hby at_71) rfl ?_
    show Steps p.tables e below (T29.setTop (mkF m 73 #[.val (.int p1), .val (.int p2), .val (.int p3), .val (.int p4), .val (.int p1), .val (.int (if (p4 &&& (1 : Int32)) = (0 : Int32) then p2 else p1)), .val (.int (if (p4 &&& (4 : Int32)) = (0 : Int32) then (if (p4 &&& (2 : Int32)) = (0 : Int32) then p3 else (if (p4 &&& (1 : Int32)) = (0 : Int32) then p2 else p1)) else p1)), .val (.ref b25), .val (.int (frm3 p1 (frm3 (if (p4 &&& (1 : Int32)) = (0 : Int32) then p2 else p1) (if (p4 &&& (4 : Int32)) = (0 : Int32) then (if (p4 &&& (2 : Int32)) = (0 : Int32) then p3 else (if (p4 &&& (1 : Int32)) = (0 : Int32) then p2 else p1)) else p1)))), .unset, .unset] [(.int (if (p4 &&& (1 : Int32)) = (0 : Int32) then p2 else p1)), (.int p1)])) _
    refine XS.iload X29.here hx rfl (hb hby at_73) rfl ?_
    exact k
  obtain ⟨_, _, ⟨T30, L30, k30, n30⟩, -, X30, ⟨Lc30, hQ30, l30, y30, z30⟩, st30⟩ := Jvm.LawKit.callS X29 hx (y := (⟨"java/lang/Math", "max", "(II)I"⟩ : MethodName)) hown (mvT hZ (hw _ (List.mem_of_getElem? (i := 19) rfl))) (mvT hZ (hw _ (List.mem_of_getElem? (i := 20) rfl))) (mvT hZ (hw _ (List.mem_of_getElem? (i := 17) rfl))) (mvT hZ (hw _ (List.mem_of_getElem? (i := 21) rfl))) (by decide) (backOf (W := 1) (rm4 l Z a0 hw [] (if (p4 &&& (1 : Int32)) = (0 : Int32) then p2 else p1) (if (p4 &&& (4 : Int32)) = (0 : Int32) then (if (p4 &&& (2 : Int32)) = (0 : Int32) then p3 else (if (p4 &&& (1 : Int32)) = (0 : Int32) then p2 else p1)) else p1) T26.heap n0 Z26 ) hZ (hw _ (List.mem_of_getElem? (i := 21) rfl)) (hw _ (List.mem_of_getElem? (i := 17) rfl)) (by decide) (by decide)) (g := (mkF m 75 #[.val (.int p1), .val (.int p2), .val (.int p3), .val (.int p4), .val (.int p1), .val (.int (if (p4 &&& (1 : Int32)) = (0 : Int32) then p2 else p1)), .val (.int (if (p4 &&& (4 : Int32)) = (0 : Int32) then (if (p4 &&& (2 : Int32)) = (0 : Int32) then p3 else (if (p4 &&& (1 : Int32)) = (0 : Int32) then p2 else p1)) else p1)), .val (.ref b25), .val (.int (frm3 p1 (frm3 (if (p4 &&& (1 : Int32)) = (0 : Int32) then p2 else p1) (if (p4 &&& (4 : Int32)) = (0 : Int32) then (if (p4 &&& (2 : Int32)) = (0 : Int32) then p3 else (if (p4 &&& (1 : Int32)) = (0 : Int32) then p2 else p1)) else p1)))), .unset, .unset] [(.int (if (p4 &&& (4 : Int32)) = (0 : Int32) then (if (p4 &&& (2 : Int32)) = (0 : Int32) then p3 else (if (p4 &&& (1 : Int32)) = (0 : Int32) then p2 else p1)) else p1)), (.int (if (p4 &&& (1 : Int32)) = (0 : Int32) then p2 else p1)), (.int p1)])) rfl (by rw [hml]; rfl) (argsL := [(.int (if (p4 &&& (1 : Int32)) = (0 : Int32) then p2 else p1)), (.int (if (p4 &&& (4 : Int32)) = (0 : Int32) then (if (p4 &&& (2 : Int32)) = (0 : Int32) then p3 else (if (p4 &&& (1 : Int32)) = (0 : Int32) then p2 else p1)) else p1))]) (rest := [(.int p1)]) (lenOf pd_1 rfl) rfl (by show 2 * 0 + _ ≤ _; exact Nat.le_of_eq rfl) (hb hby at_75) (fun _ _ => ⟨rfl, e29, (by decide : 1 + 0 ≤ _), (by decide : 3 + 0 ≤ _)⟩)
  dsimp only [Pt.U, Pt.locs, Pt.cells, Pt.slots] at X30 l30 y30 z30 st30 hQ30
  subst l30 y30 z30
  obtain ⟨rfl, Nq30, e30⟩ := hQ30
  have N30 := Fr.app N29 Nq30
  refine own_go (A := _) (B := T30.setTop (mkF m 78 #[.val (.int p1), .val (.int p2), .val (.int p3), .val (.int p4), .val (.int p1), .val (.int (if (p4 &&& (1 : Int32)) = (0 : Int32) then p2 else p1)), .val (.int (if (p4 &&& (4 : Int32)) = (0 : Int32) then (if (p4 &&& (2 : Int32)) = (0 : Int32) then p3 else (if (p4 &&& (1 : Int32)) = (0 : Int32) then p2 else p1)) else p1)), .val (.ref b25), .val (.int (frm3 p1 (frm3 (if (p4 &&& (1 : Int32)) = (0 : Int32) then p2 else p1) (if (p4 &&& (4 : Int32)) = (0 : Int32) then (if (p4 &&& (2 : Int32)) = (0 : Int32) then p3 else (if (p4 &&& (1 : Int32)) = (0 : Int32) then p2 else p1)) else p1)))), .unset, .unset] [(.int (frm4 (if (p4 &&& (1 : Int32)) = (0 : Int32) then p2 else p1) (if (p4 &&& (4 : Int32)) = (0 : Int32) then (if (p4 &&& (2 : Int32)) = (0 : Int32) then p3 else (if (p4 &&& (1 : Int32)) = (0 : Int32) then p2 else p1)) else p1))), (.int p1)])) st30 ?_
  obtain ⟨_, _, ⟨T31, L31, k31, n31⟩, -, X31, ⟨Lc31, hQ31, l31, y31, z31⟩, st31⟩ := Jvm.LawKit.callS X30 hx (y := (⟨"java/lang/Math", "max", "(II)I"⟩ : MethodName)) hown (mvT hZ (hw _ (List.mem_of_getElem? (i := 19) rfl))) (mvT hZ (hw _ (List.mem_of_getElem? (i := 20) rfl))) (mvT hZ (hw _ (List.mem_of_getElem? (i := 17) rfl))) (mvT hZ (hw _ (List.mem_of_getElem? (i := 21) rfl))) (by decide) (backOf (W := 0) (rm4 l Z a0 hw [] p1 (frm4 (if (p4 &&& (1 : Int32)) = (0 : Int32) then p2 else p1) (if (p4 &&& (4 : Int32)) = (0 : Int32) then (if (p4 &&& (2 : Int32)) = (0 : Int32) then p3 else (if (p4 &&& (1 : Int32)) = (0 : Int32) then p2 else p1)) else p1)) T26.heap n0 Z26 ) hZ (hw _ (List.mem_of_getElem? (i := 21) rfl)) (hw _ (List.mem_of_getElem? (i := 17) rfl)) (by decide) (by decide)) (g := (mkF m 78 #[.val (.int p1), .val (.int p2), .val (.int p3), .val (.int p4), .val (.int p1), .val (.int (if (p4 &&& (1 : Int32)) = (0 : Int32) then p2 else p1)), .val (.int (if (p4 &&& (4 : Int32)) = (0 : Int32) then (if (p4 &&& (2 : Int32)) = (0 : Int32) then p3 else (if (p4 &&& (1 : Int32)) = (0 : Int32) then p2 else p1)) else p1)), .val (.ref b25), .val (.int (frm3 p1 (frm3 (if (p4 &&& (1 : Int32)) = (0 : Int32) then p2 else p1) (if (p4 &&& (4 : Int32)) = (0 : Int32) then (if (p4 &&& (2 : Int32)) = (0 : Int32) then p3 else (if (p4 &&& (1 : Int32)) = (0 : Int32) then p2 else p1)) else p1)))), .unset, .unset] [(.int (frm4 (if (p4 &&& (1 : Int32)) = (0 : Int32) then p2 else p1) (if (p4 &&& (4 : Int32)) = (0 : Int32) then (if (p4 &&& (2 : Int32)) = (0 : Int32) then p3 else (if (p4 &&& (1 : Int32)) = (0 : Int32) then p2 else p1)) else p1))), (.int p1)])) rfl (by rw [hml]; rfl) (argsL := [(.int p1), (.int (frm4 (if (p4 &&& (1 : Int32)) = (0 : Int32) then p2 else p1) (if (p4 &&& (4 : Int32)) = (0 : Int32) then (if (p4 &&& (2 : Int32)) = (0 : Int32) then p3 else (if (p4 &&& (1 : Int32)) = (0 : Int32) then p2 else p1)) else p1)))]) (rest := []) (lenOf pd_1 rfl) rfl (by show 2 * 0 + _ ≤ _; exact Nat.le_of_eq rfl) (hb hby at_78) (fun _ _ => ⟨rfl, e30, (by decide : 1 + 0 ≤ _), (by decide : 3 + 0 ≤ _)⟩)
  dsimp only [Pt.U, Pt.locs, Pt.cells, Pt.slots] at X31 l31 y31 z31 st31 hQ31
  subst l31 y31 z31
  obtain ⟨rfl, Nq31, e31⟩ := hQ31
  have N31 := Fr.app N30 Nq31
  refine own_go (A := _) (B := T31.setTop (mkF m 81 #[.val (.int p1), .val (.int p2), .val (.int p3), .val (.int p4), .val (.int p1), .val (.int (if (p4 &&& (1 : Int32)) = (0 : Int32) then p2 else p1)), .val (.int (if (p4 &&& (4 : Int32)) = (0 : Int32) then (if (p4 &&& (2 : Int32)) = (0 : Int32) then p3 else (if (p4 &&& (1 : Int32)) = (0 : Int32) then p2 else p1)) else p1)), .val (.ref b25), .val (.int (frm3 p1 (frm3 (if (p4 &&& (1 : Int32)) = (0 : Int32) then p2 else p1) (if (p4 &&& (4 : Int32)) = (0 : Int32) then (if (p4 &&& (2 : Int32)) = (0 : Int32) then p3 else (if (p4 &&& (1 : Int32)) = (0 : Int32) then p2 else p1)) else p1)))), .unset, .unset] [(.int (frm4 p1 (frm4 (if (p4 &&& (1 : Int32)) = (0 : Int32) then p2 else p1) (if (p4 &&& (4 : Int32)) = (0 : Int32) then (if (p4 &&& (2 : Int32)) = (0 : Int32) then p3 else (if (p4 &&& (1 : Int32)) = (0 : Int32) then p2 else p1)) else p1))))])) st31 ?_
  refine own_go (A := T31.setTop (mkF m 81 #[.val (.int p1), .val (.int p2), .val (.int p3), .val (.int p4), .val (.int p1), .val (.int (if (p4 &&& (1 : Int32)) = (0 : Int32) then p2 else p1)), .val (.int (if (p4 &&& (4 : Int32)) = (0 : Int32) then (if (p4 &&& (2 : Int32)) = (0 : Int32) then p3 else (if (p4 &&& (1 : Int32)) = (0 : Int32) then p2 else p1)) else p1)), .val (.ref b25), .val (.int (frm3 p1 (frm3 (if (p4 &&& (1 : Int32)) = (0 : Int32) then p2 else p1) (if (p4 &&& (4 : Int32)) = (0 : Int32) then (if (p4 &&& (2 : Int32)) = (0 : Int32) then p3 else (if (p4 &&& (1 : Int32)) = (0 : Int32) then p2 else p1)) else p1)))), .unset, .unset] [(.int (frm4 p1 (frm4 (if (p4 &&& (1 : Int32)) = (0 : Int32) then p2 else p1) (if (p4 &&& (4 : Int32)) = (0 : Int32) then (if (p4 &&& (2 : Int32)) = (0 : Int32) then p3 else (if (p4 &&& (1 : Int32)) = (0 : Int32) then p2 else p1)) else p1))))])) (B := T31.setTop (mkF m 87 #[.val (.int p1), .val (.int p2), .val (.int p3), .val (.int p4), .val (.int p1), .val (.int (if (p4 &&& (1 : Int32)) = (0 : Int32) then p2 else p1)), .val (.int (if (p4 &&& (4 : Int32)) = (0 : Int32) then (if (p4 &&& (2 : Int32)) = (0 : Int32) then p3 else (if (p4 &&& (1 : Int32)) = (0 : Int32) then p2 else p1)) else p1)), .val (.ref b25), .val (.int (frm3 p1 (frm3 (if (p4 &&& (1 : Int32)) = (0 : Int32) then p2 else p1) (if (p4 &&& (4 : Int32)) = (0 : Int32) then (if (p4 &&& (2 : Int32)) = (0 : Int32) then p3 else (if (p4 &&& (1 : Int32)) = (0 : Int32) then p2 else p1)) else p1)))), .val (.int (frm4 p1 (frm4 (if (p4 &&& (1 : Int32)) = (0 : Int32) then p2 else p1) (if (p4 &&& (4 : Int32)) = (0 : Int32) then (if (p4 &&& (2 : Int32)) = (0 : Int32) then p3 else (if (p4 &&& (1 : Int32)) = (0 : Int32) then p2 else p1)) else p1)))), .unset] [(.int (frm4 p1 (frm4 (if (p4 &&& (1 : Int32)) = (0 : Int32) then p2 else p1) (if (p4 &&& (4 : Int32)) = (0 : Int32) then (if (p4 &&& (2 : Int32)) = (0 : Int32) then p3 else (if (p4 &&& (1 : Int32)) = (0 : Int32) then p2 else p1)) else p1)))), (.int (frm3 p1 (frm3 (if (p4 &&& (1 : Int32)) = (0 : Int32) then p2 else p1) (if (p4 &&& (4 : Int32)) = (0 : Int32) then (if (p4 &&& (2 : Int32)) = (0 : Int32) then p3 else (if (p4 &&& (1 : Int32)) = (0 : Int32) then p2 else p1)) else p1))))])) (fun t k => ?_) ?_
  · show Steps p.tables e below (T31.setTop (mkF m 81 #[.val (.int p1), .val (.int p2), .val (.int p3), .val (.int p4), .val (.int p1), .val (.int (if (p4 &&& (1 : Int32)) = (0 : Int32) then p2 else p1)), .val (.int (if (p4 &&& (4 : Int32)) = (0 : Int32) then (if (p4 &&& (2 : Int32)) = (0 : Int32) then p3 else (if (p4 &&& (1 : Int32)) = (0 : Int32) then p2 else p1)) else p1)), .val (.ref b25), .val (.int (frm3 p1 (frm3 (if (p4 &&& (1 : Int32)) = (0 : Int32) then p2 else p1) (if (p4 &&& (4 : Int32)) = (0 : Int32) then (if (p4 &&& (2 : Int32)) = (0 : Int32) then p3 else (if (p4 &&& (1 : Int32)) = (0 : Int32) then p2 else p1)) else p1)))), .unset, .unset] [(.int (frm4 p1 (frm4 (if (p4 &&& (1 : Int32)) = (0 : Int32) then p2 else p1) (if (p4 &&& (4 : Int32)) = (0 : Int32) then (if (p4 &&& (2 : Int32)) = (0 : Int32) then p3 else (if (p4 &&& (1 : Int32)) = (0 : Int32) then p2 else p1)) else p1))))])) _
    refine XS.istore X31.here hx rfl (hb hby at_81) rfl (l' := #[.val (.int p1), .val (.int p2), .val (.int p3), .val (.int p4), .val (.int p1), .val (.int (if (p4 &&& (1 : Int32)) = (0 : Int32) then p2 else p1)), .val (.int (if (p4 &&& (4 : Int32)) = (0 : Int32) then (if (p4 &&& (2 : Int32)) = (0 : Int32) then p3 else (if (p4 &&& (1 : Int32)) = (0 : Int32) then p2 else p1)) else p1)), .val (.ref b25), .val (.int (frm3 p1 (frm3 (if (p4 &&& (1 : Int32)) = (0 : Int32) then p2 else p1) (if (p4 &&& (4 : Int32)) = (0 : Int32) then (if (p4 &&& (2 : Int32)) = (0 : Int32) then p3 else (if (p4 &&& (1 : Int32)) = (0 : Int32) then p2 else p1)) else p1)))), .val (.int (frm4 p1 (frm4 (if (p4 &&& (1 : Int32)) = (0 : Int32) then p2 else p1) (if (p4 &&& (4 : Int32)) = (0 : Int32) then (if (p4 &&& (2 : Int32)) = (0 : Int32) then p3 else (if (p4 &&& (1 : Int32)) = (0 : Int32) then p2 else p1)) else p1)))), .unset]) rfl ?_
    show Steps p.tables e below (T31.setTop (mkF m 83 #[.val (.int p1), .val (.int p2), .val (.int p3), .val (.int p4), .val (.int p1), .val (.int (if (p4 &&& (1 : Int32)) = (0 : Int32) then p2 else p1)), .val (.int (if (p4 &&& (4 : Int32)) = (0 : Int32) then (if (p4 &&& (2 : Int32)) = (0 : Int32) then p3 else (if (p4 &&& (1 : Int32)) = (0 : Int32) then p2 else p1)) else p1)), .val (.ref b25), .val (.int (frm3 p1 (frm3 (if (p4 &&& (1 : Int32)) = (0 : Int32) then p2 else p1) (if (p4 &&& (4 : Int32)) = (0 : Int32) then (if (p4 &&& (2 : Int32)) = (0 : Int32) then p3 else (if (p4 &&& (1 : Int32)) = (0 : Int32) then p2 else p1)) else p1)))), .val (.int (frm4 p1 (frm4 (if (p4 &&& (1 : Int32)) = (0 : Int32) then p2 else p1) (if (p4 &&& (4 : Int32)) = (0 : Int32) then (if (p4 &&& (2 : Int32)) = (0 : Int32) then p3 else (if (p4 &&& (1 : Int32)) = (0 : Int32) then p2 else p1)) else p1)))), .unset] [])) _
    refine XS.iload X31.here hx rfl (hb hby at_83) rfl ?_
    show Steps p.tables e below (T31.setTop (mkF m 85 #[.val (.int p1), .val (.int p2), .val (.int p3), .val (.int p4), .val (.int p1), .val (.int (if (p4 &&& (1 : Int32)) = (0 : Int32) then p2 else p1)), .val (.int (if (p4 &&& (4 : Int32)) = (0 : Int32) then (if (p4 &&& (2 : Int32)) = (0 : Int32) then p3 else (if (p4 &&& (1 : Int32)) = (0 : Int32) then p2 else p1)) else p1)), .val (.ref b25), .val (.int (frm3 p1 (frm3 (if (p4 &&& (1 : Int32)) = (0 : Int32) then p2 else p1) (if (p4 &&& (4 : Int32)) = (0 : Int32) then (if (p4 &&& (2 : Int32)) = (0 : Int32) then p3 else (if (p4 &&& (1 : Int32)) = (0 : Int32) then p2 else p1)) else p1)))), .val (.int (frm4 p1 (frm4 (if (p4 &&& (1 : Int32)) = (0 : Int32) then p2 else p1) (if (p4 &&& (4 : Int32)) = (0 : Int32) then (if (p4 &&& (2 : Int32)) = (0 : Int32) then p3 else (if (p4 &&& (1 : Int32)) = (0 : Int32) then p2 else p1)) else p1)))), .unset] [(.int (frm3 p1 (frm3 (if (p4 &&& (1 : Int32)) = (0 : Int32) then p2 else p1) (if (p4 &&& (4 : Int32)) = (0 : Int32) then (if (p4 &&& (2 : Int32)) = (0 : Int32) then p3 else (if (p4 &&& (1 : Int32)) = (0 : Int32) then p2 else p1)) else p1))))])) _
    refine XS.iload X31.here hx rfl (hb hby at_85) rfl ?_
    exact k
  refine own_go (A := T31.setTop (mkF m 87 #[.val (.int p1), .val (.int p2), .val (.int p3), .val (.int p4), .val (.int p1), .val (.int (if (p4 &&& (1 : Int32)) = (0 : Int32) then p2 else p1)), .val (.int (if (p4 &&& (4 : Int32)) = (0 : Int32) then (if (p4 &&& (2 : Int32)) = (0 : Int32) then p3 else (if (p4 &&& (1 : Int32)) = (0 : Int32) then p2 else p1)) else p1)), .val (.ref b25), .val (.int (frm3 p1 (frm3 (if (p4 &&& (1 : Int32)) = (0 : Int32) then p2 else p1) (if (p4 &&& (4 : Int32)) = (0 : Int32) then (if (p4 &&& (2 : Int32)) = (0 : Int32) then p3 else (if (p4 &&& (1 : Int32)) = (0 : Int32) then p2 else p1)) else p1)))), .val (.int (frm4 p1 (frm4 (if (p4 &&& (1 : Int32)) = (0 : Int32) then p2 else p1) (if (p4 &&& (4 : Int32)) = (0 : Int32) then (if (p4 &&& (2 : Int32)) = (0 : Int32) then p3 else (if (p4 &&& (1 : Int32)) = (0 : Int32) then p2 else p1)) else p1)))), .unset] [(.int (frm4 p1 (frm4 (if (p4 &&& (1 : Int32)) = (0 : Int32) then p2 else p1) (if (p4 &&& (4 : Int32)) = (0 : Int32) then (if (p4 &&& (2 : Int32)) = (0 : Int32) then p3 else (if (p4 &&& (1 : Int32)) = (0 : Int32) then p2 else p1)) else p1)))), (.int (frm3 p1 (frm3 (if (p4 &&& (1 : Int32)) = (0 : Int32) then p2 else p1) (if (p4 &&& (4 : Int32)) = (0 : Int32) then (if (p4 &&& (2 : Int32)) = (0 : Int32) then p3 else (if (p4 &&& (1 : Int32)) = (0 : Int32) then p2 else p1)) else p1))))])) (B := T31.setTop (mkF m 95 #[.val (.int p1), .val (.int p2), .val (.int p3), .val (.int p4), .val (.int p1), .val (.int (if (p4 &&& (1 : Int32)) = (0 : Int32) then p2 else p1)), .val (.int (if (p4 &&& (4 : Int32)) = (0 : Int32) then (if (p4 &&& (2 : Int32)) = (0 : Int32) then p3 else (if (p4 &&& (1 : Int32)) = (0 : Int32) then p2 else p1)) else p1)), .val (.ref b25), .val (.int (frm3 p1 (frm3 (if (p4 &&& (1 : Int32)) = (0 : Int32) then p2 else p1) (if (p4 &&& (4 : Int32)) = (0 : Int32) then (if (p4 &&& (2 : Int32)) = (0 : Int32) then p3 else (if (p4 &&& (1 : Int32)) = (0 : Int32) then p2 else p1)) else p1)))), .val (.int (frm4 p1 (frm4 (if (p4 &&& (1 : Int32)) = (0 : Int32) then p2 else p1) (if (p4 &&& (4 : Int32)) = (0 : Int32) then (if (p4 &&& (2 : Int32)) = (0 : Int32) then p3 else (if (p4 &&& (1 : Int32)) = (0 : Int32) then p2 else p1)) else p1)))), .unset] [(.int (if (frm3 p1 (frm3 (if (p4 &&& (1 : Int32)) = (0 : Int32) then p2 else p1) (if (p4 &&& (4 : Int32)) = (0 : Int32) then (if (p4 &&& (2 : Int32)) = (0 : Int32) then p3 else (if (p4 &&& (1 : Int32)) = (0 : Int32) then p2 else p1)) else p1))) = (frm4 p1 (frm4 (if (p4 &&& (1 : Int32)) = (0 : Int32) then p2 else p1) (if (p4 &&& (4 : Int32)) = (0 : Int32) then (if (p4 &&& (2 : Int32)) = (0 : Int32) then p3 else (if (p4 &&& (1 : Int32)) = (0 : Int32) then p2 else p1)) else p1))) then (0 : Int32) else (1 : Int32)))])) (fun t k => ?_) ?_
  · by_cases hc87_32 : (frm3 p1 (frm3 (if (p4 &&& (1 : Int32)) = (0 : Int32) then p2 else p1) (if (p4 &&& (4 : Int32)) = (0 : Int32) then (if (p4 &&& (2 : Int32)) = (0 : Int32) then p3 else (if (p4 &&& (1 : Int32)) = (0 : Int32) then p2 else p1)) else p1))) = (frm4 p1 (frm4 (if (p4 &&& (1 : Int32)) = (0 : Int32) then p2 else p1) (if (p4 &&& (4 : Int32)) = (0 : Int32) then (if (p4 &&& (2 : Int32)) = (0 : Int32) then p3 else (if (p4 &&& (1 : Int32)) = (0 : Int32) then p2 else p1)) else p1)))
    · show Steps p.tables e below (T31.setTop (mkF m 87 #[.val (.int p1), .val (.int p2), .val (.int p3), .val (.int p4), .val (.int p1), .val (.int (if (p4 &&& (1 : Int32)) = (0 : Int32) then p2 else p1)), .val (.int (if (p4 &&& (4 : Int32)) = (0 : Int32) then (if (p4 &&& (2 : Int32)) = (0 : Int32) then p3 else (if (p4 &&& (1 : Int32)) = (0 : Int32) then p2 else p1)) else p1)), .val (.ref b25), .val (.int (frm3 p1 (frm3 (if (p4 &&& (1 : Int32)) = (0 : Int32) then p2 else p1) (if (p4 &&& (4 : Int32)) = (0 : Int32) then (if (p4 &&& (2 : Int32)) = (0 : Int32) then p3 else (if (p4 &&& (1 : Int32)) = (0 : Int32) then p2 else p1)) else p1)))), .val (.int (frm4 p1 (frm4 (if (p4 &&& (1 : Int32)) = (0 : Int32) then p2 else p1) (if (p4 &&& (4 : Int32)) = (0 : Int32) then (if (p4 &&& (2 : Int32)) = (0 : Int32) then p3 else (if (p4 &&& (1 : Int32)) = (0 : Int32) then p2 else p1)) else p1)))), .unset] [(.int (frm4 p1 (frm4 (if (p4 &&& (1 : Int32)) = (0 : Int32) then p2 else p1) (if (p4 &&& (4 : Int32)) = (0 : Int32) then (if (p4 &&& (2 : Int32)) = (0 : Int32) then p3 else (if (p4 &&& (1 : Int32)) = (0 : Int32) then p2 else p1)) else p1)))), (.int (frm3 p1 (frm3 (if (p4 &&& (1 : Int32)) = (0 : Int32) then p2 else p1) (if (p4 &&& (4 : Int32)) = (0 : Int32) then (if (p4 &&& (2 : Int32)) = (0 : Int32) then p3 else (if (p4 &&& (1 : Int32)) = (0 : Int32) then p2 else p1)) else p1))))])) _
      refine XS.icmpYes X31.here hx rfl (pc0 := 87) (pc' := 94) rfl (hb hby at_87) rfl (teq hc87_32).1 (by decide) (by decide) ?_
      show Steps p.tables e below (T31.setTop (mkF m 94 #[.val (.int p1), .val (.int p2), .val (.int p3), .val (.int p4), .val (.int p1), .val (.int (if (p4 &&& (1 : Int32)) = (0 : Int32) then p2 else p1)), .val (.int (if (p4 &&& (4 : Int32)) = (0 : Int32) then (if (p4 &&& (2 : Int32)) = (0 : Int32) then p3 else (if (p4 &&& (1 : Int32)) = (0 : Int32) then p2 else p1)) else p1)), .val (.ref b25), .val (.int (frm3 p1 (frm3 (if (p4 &&& (1 : Int32)) = (0 : Int32) then p2 else p1) (if (p4 &&& (4 : Int32)) = (0 : Int32) then (if (p4 &&& (2 : Int32)) = (0 : Int32) then p3 else (if (p4 &&& (1 : Int32)) = (0 : Int32) then p2 else p1)) else p1)))), .val (.int (frm4 p1 (frm4 (if (p4 &&& (1 : Int32)) = (0 : Int32) then p2 else p1) (if (p4 &&& (4 : Int32)) = (0 : Int32) then (if (p4 &&& (2 : Int32)) = (0 : Int32) then p3 else (if (p4 &&& (1 : Int32)) = (0 : Int32) then p2 else p1)) else p1)))), .unset] [])) _
      refine XS.iconst X31.here hx rfl (hb hby at_94) ?_
      show Steps p.tables e below (T31.setTop (mkF m 95 #[.val (.int p1), .val (.int p2), .val (.int p3), .val (.int p4), .val (.int p1), .val (.int (if (p4 &&& (1 : Int32)) = (0 : Int32) then p2 else p1)), .val (.int (if (p4 &&& (4 : Int32)) = (0 : Int32) then (if (p4 &&& (2 : Int32)) = (0 : Int32) then p3 else (if (p4 &&& (1 : Int32)) = (0 : Int32) then p2 else p1)) else p1)), .val (.ref b25), .val (.int (frm3 p1 (frm3 (if (p4 &&& (1 : Int32)) = (0 : Int32) then p2 else p1) (if (p4 &&& (4 : Int32)) = (0 : Int32) then (if (p4 &&& (2 : Int32)) = (0 : Int32) then p3 else (if (p4 &&& (1 : Int32)) = (0 : Int32) then p2 else p1)) else p1)))), .val (.int (frm4 p1 (frm4 (if (p4 &&& (1 : Int32)) = (0 : Int32) then p2 else p1) (if (p4 &&& (4 : Int32)) = (0 : Int32) then (if (p4 &&& (2 : Int32)) = (0 : Int32) then p3 else (if (p4 &&& (1 : Int32)) = (0 : Int32) then p2 else p1)) else p1)))), .unset] [(.int (0 : Int32))])) _
      exact castTop (by first | (simp only [if_pos hc87_32]; done) | rfl) k
    · show Steps p.tables e below (T31.setTop (mkF m 87 #[.val (.int p1), .val (.int p2), .val (.int p3), .val (.int p4), .val (.int p1), .val (.int (if (p4 &&& (1 : Int32)) = (0 : Int32) then p2 else p1)), .val (.int (if (p4 &&& (4 : Int32)) = (0 : Int32) then (if (p4 &&& (2 : Int32)) = (0 : Int32) then p3 else (if (p4 &&& (1 : Int32)) = (0 : Int32) then p2 else p1)) else p1)), .val (.ref b25), .val (.int (frm3 p1 (frm3 (if (p4 &&& (1 : Int32)) = (0 : Int32) then p2 else p1) (if (p4 &&& (4 : Int32)) = (0 : Int32) then (if (p4 &&& (2 : Int32)) = (0 : Int32) then p3 else (if (p4 &&& (1 : Int32)) = (0 : Int32) then p2 else p1)) else p1)))), .val (.int (frm4 p1 (frm4 (if (p4 &&& (1 : Int32)) = (0 : Int32) then p2 else p1) (if (p4 &&& (4 : Int32)) = (0 : Int32) then (if (p4 &&& (2 : Int32)) = (0 : Int32) then p3 else (if (p4 &&& (1 : Int32)) = (0 : Int32) then p2 else p1)) else p1)))), .unset] [(.int (frm4 p1 (frm4 (if (p4 &&& (1 : Int32)) = (0 : Int32) then p2 else p1) (if (p4 &&& (4 : Int32)) = (0 : Int32) then (if (p4 &&& (2 : Int32)) = (0 : Int32) then p3 else (if (p4 &&& (1 : Int32)) = (0 : Int32) then p2 else p1)) else p1)))), (.int (frm3 p1 (frm3 (if (p4 &&& (1 : Int32)) = (0 : Int32) then p2 else p1) (if (p4 &&& (4 : Int32)) = (0 : Int32) then (if (p4 &&& (2 : Int32)) = (0 : Int32) then p3 else (if (p4 &&& (1 : Int32)) = (0 : Int32) then p2 else p1)) else p1))))])) _
      refine XS.icmpNo X31.here hx rfl (hb hby at_87) rfl (feq hc87_32).1 ?_
      show Steps p.tables e below (T31.setTop (mkF m 90 #[.val (.int p1), .val (.int p2), .val (.int p3), .val (.int p4), .val (.int p1), .val (.int (if (p4 &&& (1 : Int32)) = (0 : Int32) then p2 else p1)), .val (.int (if (p4 &&& (4 : Int32)) = (0 : Int32) then (if (p4 &&& (2 : Int32)) = (0 : Int32) then p3 else (if (p4 &&& (1 : Int32)) = (0 : Int32) then p2 else p1)) else p1)), .val (.ref b25), .val (.int (frm3 p1 (frm3 (if (p4 &&& (1 : Int32)) = (0 : Int32) then p2 else p1) (if (p4 &&& (4 : Int32)) = (0 : Int32) then (if (p4 &&& (2 : Int32)) = (0 : Int32) then p3 else (if (p4 &&& (1 : Int32)) = (0 : Int32) then p2 else p1)) else p1)))), .val (.int (frm4 p1 (frm4 (if (p4 &&& (1 : Int32)) = (0 : Int32) then p2 else p1) (if (p4 &&& (4 : Int32)) = (0 : Int32) then (if (p4 &&& (2 : Int32)) = (0 : Int32) then p3 else (if (p4 &&& (1 : Int32)) = (0 : Int32) then p2 else p1)) else p1)))), .unset] [])) _
      refine XS.iconst X31.here hx rfl (hb hby at_90) ?_
      show Steps p.tables e below (T31.setTop (mkF m 91 #[.val (.int p1), .val (.int p2), .val (.int p3), .val (.int p4), .val (.int p1), .val (.int (if (p4 &&& (1 : Int32)) = (0 : Int32) then p2 else p1)), .val (.int (if (p4 &&& (4 : Int32)) = (0 : Int32) then (if (p4 &&& (2 : Int32)) = (0 : Int32) then p3 else (if (p4 &&& (1 : Int32)) = (0 : Int32) then p2 else p1)) else p1)), .val (.ref b25), .val (.int (frm3 p1 (frm3 (if (p4 &&& (1 : Int32)) = (0 : Int32) then p2 else p1) (if (p4 &&& (4 : Int32)) = (0 : Int32) then (if (p4 &&& (2 : Int32)) = (0 : Int32) then p3 else (if (p4 &&& (1 : Int32)) = (0 : Int32) then p2 else p1)) else p1)))), .val (.int (frm4 p1 (frm4 (if (p4 &&& (1 : Int32)) = (0 : Int32) then p2 else p1) (if (p4 &&& (4 : Int32)) = (0 : Int32) then (if (p4 &&& (2 : Int32)) = (0 : Int32) then p3 else (if (p4 &&& (1 : Int32)) = (0 : Int32) then p2 else p1)) else p1)))), .unset] [(.int (1 : Int32))])) _
      refine XS.goto X31.here hx rfl (pc0 := 91) (pc' := 95) rfl (hb hby at_91) (by decide) (by decide) ?_
      show Steps p.tables e below (T31.setTop (mkF m 95 #[.val (.int p1), .val (.int p2), .val (.int p3), .val (.int p4), .val (.int p1), .val (.int (if (p4 &&& (1 : Int32)) = (0 : Int32) then p2 else p1)), .val (.int (if (p4 &&& (4 : Int32)) = (0 : Int32) then (if (p4 &&& (2 : Int32)) = (0 : Int32) then p3 else (if (p4 &&& (1 : Int32)) = (0 : Int32) then p2 else p1)) else p1)), .val (.ref b25), .val (.int (frm3 p1 (frm3 (if (p4 &&& (1 : Int32)) = (0 : Int32) then p2 else p1) (if (p4 &&& (4 : Int32)) = (0 : Int32) then (if (p4 &&& (2 : Int32)) = (0 : Int32) then p3 else (if (p4 &&& (1 : Int32)) = (0 : Int32) then p2 else p1)) else p1)))), .val (.int (frm4 p1 (frm4 (if (p4 &&& (1 : Int32)) = (0 : Int32) then p2 else p1) (if (p4 &&& (4 : Int32)) = (0 : Int32) then (if (p4 &&& (2 : Int32)) = (0 : Int32) then p3 else (if (p4 &&& (1 : Int32)) = (0 : Int32) then p2 else p1)) else p1)))), .unset] [(.int (1 : Int32))])) _
      exact castTop (by first | (simp only [if_neg hc87_32]; done) | rfl) k
  refine own_go (A := T31.setTop (mkF m 95 #[.val (.int p1), .val (.int p2), .val (.int p3), .val (.int p4), .val (.int p1), .val (.int (if (p4 &&& (1 : Int32)) = (0 : Int32) then p2 else p1)), .val (.int (if (p4 &&& (4 : Int32)) = (0 : Int32) then (if (p4 &&& (2 : Int32)) = (0 : Int32) then p3 else (if (p4 &&& (1 : Int32)) = (0 : Int32) then p2 else p1)) else p1)), .val (.ref b25), .val (.int (frm3 p1 (frm3 (if (p4 &&& (1 : Int32)) = (0 : Int32) then p2 else p1) (if (p4 &&& (4 : Int32)) = (0 : Int32) then (if (p4 &&& (2 : Int32)) = (0 : Int32) then p3 else (if (p4 &&& (1 : Int32)) = (0 : Int32) then p2 else p1)) else p1)))), .val (.int (frm4 p1 (frm4 (if (p4 &&& (1 : Int32)) = (0 : Int32) then p2 else p1) (if (p4 &&& (4 : Int32)) = (0 : Int32) then (if (p4 &&& (2 : Int32)) = (0 : Int32) then p3 else (if (p4 &&& (1 : Int32)) = (0 : Int32) then p2 else p1)) else p1)))), .unset] [(.int (if (frm3 p1 (frm3 (if (p4 &&& (1 : Int32)) = (0 : Int32) then p2 else p1) (if (p4 &&& (4 : Int32)) = (0 : Int32) then (if (p4 &&& (2 : Int32)) = (0 : Int32) then p3 else (if (p4 &&& (1 : Int32)) = (0 : Int32) then p2 else p1)) else p1))) = (frm4 p1 (frm4 (if (p4 &&& (1 : Int32)) = (0 : Int32) then p2 else p1) (if (p4 &&& (4 : Int32)) = (0 : Int32) then (if (p4 &&& (2 : Int32)) = (0 : Int32) then p3 else (if (p4 &&& (1 : Int32)) = (0 : Int32) then p2 else p1)) else p1))) then (0 : Int32) else (1 : Int32)))])) (B := T31.setTop (mkF m 99 #[.val (.int p1), .val (.int p2), .val (.int p3), .val (.int p4), .val (.int p1), .val (.int (if (p4 &&& (1 : Int32)) = (0 : Int32) then p2 else p1)), .val (.int (if (p4 &&& (4 : Int32)) = (0 : Int32) then (if (p4 &&& (2 : Int32)) = (0 : Int32) then p3 else (if (p4 &&& (1 : Int32)) = (0 : Int32) then p2 else p1)) else p1)), .val (.ref b25), .val (.int (frm3 p1 (frm3 (if (p4 &&& (1 : Int32)) = (0 : Int32) then p2 else p1) (if (p4 &&& (4 : Int32)) = (0 : Int32) then (if (p4 &&& (2 : Int32)) = (0 : Int32) then p3 else (if (p4 &&& (1 : Int32)) = (0 : Int32) then p2 else p1)) else p1)))), .val (.int (frm4 p1 (frm4 (if (p4 &&& (1 : Int32)) = (0 : Int32) then p2 else p1) (if (p4 &&& (4 : Int32)) = (0 : Int32) then (if (p4 &&& (2 : Int32)) = (0 : Int32) then p3 else (if (p4 &&& (1 : Int32)) = (0 : Int32) then p2 else p1)) else p1)))), .val (.int (if (frm3 p1 (frm3 (if (p4 &&& (1 : Int32)) = (0 : Int32) then p2 else p1) (if (p4 &&& (4 : Int32)) = (0 : Int32) then (if (p4 &&& (2 : Int32)) = (0 : Int32) then p3 else (if (p4 &&& (1 : Int32)) = (0 : Int32) then p2 else p1)) else p1))) = (frm4 p1 (frm4 (if (p4 &&& (1 : Int32)) = (0 : Int32) then p2 else p1) (if (p4 &&& (4 : Int32)) = (0 : Int32) then (if (p4 &&& (2 : Int32)) = (0 : Int32) then p3 else (if (p4 &&& (1 : Int32)) = (0 : Int32) then p2 else p1)) else p1))) then (0 : Int32) else (1 : Int32)))] [(.ref b25)])) (fun t k => ?_) ?_
  · show Steps p.tables e below (T31.setTop (mkF m 95 #[.val (.int p1), .val (.int p2), .val (.int p3), .val (.int p4), .val (.int p1), .val (.int (if (p4 &&& (1 : Int32)) = (0 : Int32) then p2 else p1)), .val (.int (if (p4 &&& (4 : Int32)) = (0 : Int32) then (if (p4 &&& (2 : Int32)) = (0 : Int32) then p3 else (if (p4 &&& (1 : Int32)) = (0 : Int32) then p2 else p1)) else p1)), .val (.ref b25), .val (.int (frm3 p1 (frm3 (if (p4 &&& (1 : Int32)) = (0 : Int32) then p2 else p1) (if (p4 &&& (4 : Int32)) = (0 : Int32) then (if (p4 &&& (2 : Int32)) = (0 : Int32) then p3 else (if (p4 &&& (1 : Int32)) = (0 : Int32) then p2 else p1)) else p1)))), .val (.int (frm4 p1 (frm4 (if (p4 &&& (1 : Int32)) = (0 : Int32) then p2 else p1) (if (p4 &&& (4 : Int32)) = (0 : Int32) then (if (p4 &&& (2 : Int32)) = (0 : Int32) then p3 else (if (p4 &&& (1 : Int32)) = (0 : Int32) then p2 else p1)) else p1)))), .unset] [(.int (if (frm3 p1 (frm3 (if (p4 &&& (1 : Int32)) = (0 : Int32) then p2 else p1) (if (p4 &&& (4 : Int32)) = (0 : Int32) then (if (p4 &&& (2 : Int32)) = (0 : Int32) then p3 else (if (p4 &&& (1 : Int32)) = (0 : Int32) then p2 else p1)) else p1))) = (frm4 p1 (frm4 (if (p4 &&& (1 : Int32)) = (0 : Int32) then p2 else p1) (if (p4 &&& (4 : Int32)) = (0 : Int32) then (if (p4 &&& (2 : Int32)) = (0 : Int32) then p3 else (if (p4 &&& (1 : Int32)) = (0 : Int32) then p2 else p1)) else p1))) then (0 : Int32) else (1 : Int32)))])) _
    refine XS.istore X31.here hx rfl (hb hby at_95) rfl (l' := #[.val (.int p1), .val (.int p2), .val (.int p3), .val (.int p4), .val (.int p1), .val (.int (if (p4 &&& (1 : Int32)) = (0 : Int32) then p2 else p1)), .val (.int (if (p4 &&& (4 : Int32)) = (0 : Int32) then (if (p4 &&& (2 : Int32)) = (0 : Int32) then p3 else (if (p4 &&& (1 : Int32)) = (0 : Int32) then p2 else p1)) else p1)), .val (.ref b25), .val (.int (frm3 p1 (frm3 (if (p4 &&& (1 : Int32)) = (0 : Int32) then p2 else p1) (if (p4 &&& (4 : Int32)) = (0 : Int32) then (if (p4 &&& (2 : Int32)) = (0 : Int32) then p3 else (if (p4 &&& (1 : Int32)) = (0 : Int32) then p2 else p1)) else p1)))), .val (.int (frm4 p1 (frm4 (if (p4 &&& (1 : Int32)) = (0 : Int32) then p2 else p1) (if (p4 &&& (4 : Int32)) = (0 : Int32) then (if (p4 &&& (2 : Int32)) = (0 : Int32) then p3 else (if (p4 &&& (1 : Int32)) = (0 : Int32) then p2 else p1)) else p1)))), .val (.int (if (frm3 p1 (frm3 (if (p4 &&& (1 : Int32)) = (0 : Int32) then p2 else p1) (if (p4 &&& (4 : Int32)) = (0 : Int32) then (if (p4 &&& (2 : Int32)) = (0 : Int32) then p3 else (if (p4 &&& (1 : Int32)) = (0 : Int32) then p2 else p1)) else p1))) = (frm4 p1 (frm4 (if (p4 &&& (1 : Int32)) = (0 : Int32) then p2 else p1) (if (p4 &&& (4 : Int32)) = (0 : Int32) then (if (p4 &&& (2 : Int32)) = (0 : Int32) then p3 else (if (p4 &&& (1 : Int32)) = (0 : Int32) then p2 else p1)) else p1))) then (0 : Int32) else (1 : Int32)))]) rfl ?_
    show Steps p.tables e below (T31.setTop (mkF m 97 #[.val (.int p1), .val (.int p2), .val (.int p3), .val (.int p4), .val (.int p1), .val (.int (if (p4 &&& (1 : Int32)) = (0 : Int32) then p2 else p1)), .val (.int (if (p4 &&& (4 : Int32)) = (0 : Int32) then (if (p4 &&& (2 : Int32)) = (0 : Int32) then p3 else (if (p4 &&& (1 : Int32)) = (0 : Int32) then p2 else p1)) else p1)), .val (.ref b25), .val (.int (frm3 p1 (frm3 (if (p4 &&& (1 : Int32)) = (0 : Int32) then p2 else p1) (if (p4 &&& (4 : Int32)) = (0 : Int32) then (if (p4 &&& (2 : Int32)) = (0 : Int32) then p3 else (if (p4 &&& (1 : Int32)) = (0 : Int32) then p2 else p1)) else p1)))), .val (.int (frm4 p1 (frm4 (if (p4 &&& (1 : Int32)) = (0 : Int32) then p2 else p1) (if (p4 &&& (4 : Int32)) = (0 : Int32) then (if (p4 &&& (2 : Int32)) = (0 : Int32) then p3 else (if (p4 &&& (1 : Int32)) = (0 : Int32) then p2 else p1)) else p1)))), .val (.int (if (frm3 p1 (frm3 (if (p4 &&& (1 : Int32)) = (0 : Int32) then p2 else p1) (if (p4 &&& (4 : Int32)) = (0 : Int32) then (if (p4 &&& (2 : Int32)) = (0 : Int32) then p3 else (if (p4 &&& (1 : Int32)) = (0 : Int32) then p2 else p1)) else p1))) = (frm4 p1 (frm4 (if (p4 &&& (1 : Int32)) = (0 : Int32) then p2 else p1) (if (p4 &&& (4 : Int32)) = (0 : Int32) then (if (p4 &&& (2 : Int32)) = (0 : Int32) then p3 else (if (p4 &&& (1 : Int32)) = (0 : Int32) then p2 else p1)) else p1))) then (0 : Int32) else (1 : Int32)))] [])) _
    refine XS.aload X31.here hx rfl (hb hby at_97) rfl rfl ?_
    exact k
  obtain ⟨cq33, kq33, q33a, q33b, q33c⟩ := isOf hZ e31 Q27
  obtain ⟨_, _, ⟨T33, L33, k33, n33⟩, -, X33, ⟨Lc33, hQ33, l33, y33, z33⟩, st33⟩ := X31.virtualBack hx (y := (⟨"com/example/mullion/mullion/layout/Extent", "resizable", "()Z"⟩ : MethodName)) (z := (⟨"com/example/mullion/mullion/layout/Extent", "resizable", "()Z"⟩ : MethodName)) hown (mvT hZ (hw _ (List.mem_of_getElem? (i := 22) rfl))) (mvT hZ (hw _ (List.mem_of_getElem? (i := 23) rfl))) (notFace_of_selects (args := #[]) (mvT hZ (hw _ (List.mem_of_getElem? (i := 25) rfl)))) (mvT hZ (hw _ (List.mem_of_getElem? (i := 25) rfl))) (mvT hZ (hw _ (List.mem_of_getElem? (i := 24) rfl))) (by decide) (backOf (W := 0) (rm5 l Z a0 hw [] b25 p1 (if (p4 &&& (1 : Int32)) = (0 : Int32) then p2 else p1) (if (p4 &&& (4 : Int32)) = (0 : Int32) then (if (p4 &&& (2 : Int32)) = (0 : Int32) then p3 else (if (p4 &&& (1 : Int32)) = (0 : Int32) then p2 else p1)) else p1) T26.heap n0 Z26 U26_0 U26_1 U26_2) hZ (hw _ (List.mem_of_getElem? (i := 26) rfl)) (hw _ (List.mem_of_getElem? (i := 2) rfl)) (by decide) (by decide)) q33a q33c (g := (mkF m 99 #[.val (.int p1), .val (.int p2), .val (.int p3), .val (.int p4), .val (.int p1), .val (.int (if (p4 &&& (1 : Int32)) = (0 : Int32) then p2 else p1)), .val (.int (if (p4 &&& (4 : Int32)) = (0 : Int32) then (if (p4 &&& (2 : Int32)) = (0 : Int32) then p3 else (if (p4 &&& (1 : Int32)) = (0 : Int32) then p2 else p1)) else p1)), .val (.ref b25), .val (.int (frm3 p1 (frm3 (if (p4 &&& (1 : Int32)) = (0 : Int32) then p2 else p1) (if (p4 &&& (4 : Int32)) = (0 : Int32) then (if (p4 &&& (2 : Int32)) = (0 : Int32) then p3 else (if (p4 &&& (1 : Int32)) = (0 : Int32) then p2 else p1)) else p1)))), .val (.int (frm4 p1 (frm4 (if (p4 &&& (1 : Int32)) = (0 : Int32) then p2 else p1) (if (p4 &&& (4 : Int32)) = (0 : Int32) then (if (p4 &&& (2 : Int32)) = (0 : Int32) then p3 else (if (p4 &&& (1 : Int32)) = (0 : Int32) then p2 else p1)) else p1)))), .val (.int (if (frm3 p1 (frm3 (if (p4 &&& (1 : Int32)) = (0 : Int32) then p2 else p1) (if (p4 &&& (4 : Int32)) = (0 : Int32) then (if (p4 &&& (2 : Int32)) = (0 : Int32) then p3 else (if (p4 &&& (1 : Int32)) = (0 : Int32) then p2 else p1)) else p1))) = (frm4 p1 (frm4 (if (p4 &&& (1 : Int32)) = (0 : Int32) then p2 else p1) (if (p4 &&& (4 : Int32)) = (0 : Int32) then (if (p4 &&& (2 : Int32)) = (0 : Int32) then p3 else (if (p4 &&& (1 : Int32)) = (0 : Int32) then p2 else p1)) else p1))) then (0 : Int32) else (1 : Int32)))] [(.ref b25)])) rfl (by rw [hml]; rfl) (Steps.refl _) (argsL := []) (rest := []) (lenOf pd_2 rfl) rfl (by show 2 * 0 + _ ≤ _; exact Nat.le_of_eq rfl) (hb hby at_99) (fun _ _ => ⟨rfl, e31, (by decide : 1 + 0 ≤ _), (by decide : 3 + 0 ≤ _)⟩)
  dsimp only [Pt.U, Pt.locs, Pt.cells, Pt.slots] at X33 l33 y33 z33 st33 hQ33
  subst l33 y33 z33
  obtain ⟨rfl, Nq33, e33⟩ := hQ33
  have N33 := Fr.app N31 Nq33
  refine own_go (A := _) (B := T33.setTop (mkF m 102 #[.val (.int p1), .val (.int p2), .val (.int p3), .val (.int p4), .val (.int p1), .val (.int (if (p4 &&& (1 : Int32)) = (0 : Int32) then p2 else p1)), .val (.int (if (p4 &&& (4 : Int32)) = (0 : Int32) then (if (p4 &&& (2 : Int32)) = (0 : Int32) then p3 else (if (p4 &&& (1 : Int32)) = (0 : Int32) then p2 else p1)) else p1)), .val (.ref b25), .val (.int (frm3 p1 (frm3 (if (p4 &&& (1 : Int32)) = (0 : Int32) then p2 else p1) (if (p4 &&& (4 : Int32)) = (0 : Int32) then (if (p4 &&& (2 : Int32)) = (0 : Int32) then p3 else (if (p4 &&& (1 : Int32)) = (0 : Int32) then p2 else p1)) else p1)))), .val (.int (frm4 p1 (frm4 (if (p4 &&& (1 : Int32)) = (0 : Int32) then p2 else p1) (if (p4 &&& (4 : Int32)) = (0 : Int32) then (if (p4 &&& (2 : Int32)) = (0 : Int32) then p3 else (if (p4 &&& (1 : Int32)) = (0 : Int32) then p2 else p1)) else p1)))), .val (.int (if (frm3 p1 (frm3 (if (p4 &&& (1 : Int32)) = (0 : Int32) then p2 else p1) (if (p4 &&& (4 : Int32)) = (0 : Int32) then (if (p4 &&& (2 : Int32)) = (0 : Int32) then p3 else (if (p4 &&& (1 : Int32)) = (0 : Int32) then p2 else p1)) else p1))) = (frm4 p1 (frm4 (if (p4 &&& (1 : Int32)) = (0 : Int32) then p2 else p1) (if (p4 &&& (4 : Int32)) = (0 : Int32) then (if (p4 &&& (2 : Int32)) = (0 : Int32) then p3 else (if (p4 &&& (1 : Int32)) = (0 : Int32) then p2 else p1)) else p1))) then (0 : Int32) else (1 : Int32)))] [(.int (frm5 p1 (if (p4 &&& (1 : Int32)) = (0 : Int32) then p2 else p1) (if (p4 &&& (4 : Int32)) = (0 : Int32) then (if (p4 &&& (2 : Int32)) = (0 : Int32) then p3 else (if (p4 &&& (1 : Int32)) = (0 : Int32) then p2 else p1)) else p1)))])) (fun t k => st33.trans k) ?_
  refine own_go (A := T33.setTop (mkF m 102 #[.val (.int p1), .val (.int p2), .val (.int p3), .val (.int p4), .val (.int p1), .val (.int (if (p4 &&& (1 : Int32)) = (0 : Int32) then p2 else p1)), .val (.int (if (p4 &&& (4 : Int32)) = (0 : Int32) then (if (p4 &&& (2 : Int32)) = (0 : Int32) then p3 else (if (p4 &&& (1 : Int32)) = (0 : Int32) then p2 else p1)) else p1)), .val (.ref b25), .val (.int (frm3 p1 (frm3 (if (p4 &&& (1 : Int32)) = (0 : Int32) then p2 else p1) (if (p4 &&& (4 : Int32)) = (0 : Int32) then (if (p4 &&& (2 : Int32)) = (0 : Int32) then p3 else (if (p4 &&& (1 : Int32)) = (0 : Int32) then p2 else p1)) else p1)))), .val (.int (frm4 p1 (frm4 (if (p4 &&& (1 : Int32)) = (0 : Int32) then p2 else p1) (if (p4 &&& (4 : Int32)) = (0 : Int32) then (if (p4 &&& (2 : Int32)) = (0 : Int32) then p3 else (if (p4 &&& (1 : Int32)) = (0 : Int32) then p2 else p1)) else p1)))), .val (.int (if (frm3 p1 (frm3 (if (p4 &&& (1 : Int32)) = (0 : Int32) then p2 else p1) (if (p4 &&& (4 : Int32)) = (0 : Int32) then (if (p4 &&& (2 : Int32)) = (0 : Int32) then p3 else (if (p4 &&& (1 : Int32)) = (0 : Int32) then p2 else p1)) else p1))) = (frm4 p1 (frm4 (if (p4 &&& (1 : Int32)) = (0 : Int32) then p2 else p1) (if (p4 &&& (4 : Int32)) = (0 : Int32) then (if (p4 &&& (2 : Int32)) = (0 : Int32) then p3 else (if (p4 &&& (1 : Int32)) = (0 : Int32) then p2 else p1)) else p1))) then (0 : Int32) else (1 : Int32)))] [(.int (frm5 p1 (if (p4 &&& (1 : Int32)) = (0 : Int32) then p2 else p1) (if (p4 &&& (4 : Int32)) = (0 : Int32) then (if (p4 &&& (2 : Int32)) = (0 : Int32) then p3 else (if (p4 &&& (1 : Int32)) = (0 : Int32) then p2 else p1)) else p1)))])) (B := T33.setTop (mkF m 104 #[.val (.int p1), .val (.int p2), .val (.int p3), .val (.int p4), .val (.int p1), .val (.int (if (p4 &&& (1 : Int32)) = (0 : Int32) then p2 else p1)), .val (.int (if (p4 &&& (4 : Int32)) = (0 : Int32) then (if (p4 &&& (2 : Int32)) = (0 : Int32) then p3 else (if (p4 &&& (1 : Int32)) = (0 : Int32) then p2 else p1)) else p1)), .val (.ref b25), .val (.int (frm3 p1 (frm3 (if (p4 &&& (1 : Int32)) = (0 : Int32) then p2 else p1) (if (p4 &&& (4 : Int32)) = (0 : Int32) then (if (p4 &&& (2 : Int32)) = (0 : Int32) then p3 else (if (p4 &&& (1 : Int32)) = (0 : Int32) then p2 else p1)) else p1)))), .val (.int (frm4 p1 (frm4 (if (p4 &&& (1 : Int32)) = (0 : Int32) then p2 else p1) (if (p4 &&& (4 : Int32)) = (0 : Int32) then (if (p4 &&& (2 : Int32)) = (0 : Int32) then p3 else (if (p4 &&& (1 : Int32)) = (0 : Int32) then p2 else p1)) else p1)))), .val (.int (if (frm3 p1 (frm3 (if (p4 &&& (1 : Int32)) = (0 : Int32) then p2 else p1) (if (p4 &&& (4 : Int32)) = (0 : Int32) then (if (p4 &&& (2 : Int32)) = (0 : Int32) then p3 else (if (p4 &&& (1 : Int32)) = (0 : Int32) then p2 else p1)) else p1))) = (frm4 p1 (frm4 (if (p4 &&& (1 : Int32)) = (0 : Int32) then p2 else p1) (if (p4 &&& (4 : Int32)) = (0 : Int32) then (if (p4 &&& (2 : Int32)) = (0 : Int32) then p3 else (if (p4 &&& (1 : Int32)) = (0 : Int32) then p2 else p1)) else p1))) then (0 : Int32) else (1 : Int32)))] [(.int (if (frm3 p1 (frm3 (if (p4 &&& (1 : Int32)) = (0 : Int32) then p2 else p1) (if (p4 &&& (4 : Int32)) = (0 : Int32) then (if (p4 &&& (2 : Int32)) = (0 : Int32) then p3 else (if (p4 &&& (1 : Int32)) = (0 : Int32) then p2 else p1)) else p1))) = (frm4 p1 (frm4 (if (p4 &&& (1 : Int32)) = (0 : Int32) then p2 else p1) (if (p4 &&& (4 : Int32)) = (0 : Int32) then (if (p4 &&& (2 : Int32)) = (0 : Int32) then p3 else (if (p4 &&& (1 : Int32)) = (0 : Int32) then p2 else p1)) else p1))) then (0 : Int32) else (1 : Int32))), (.int (frm5 p1 (if (p4 &&& (1 : Int32)) = (0 : Int32) then p2 else p1) (if (p4 &&& (4 : Int32)) = (0 : Int32) then (if (p4 &&& (2 : Int32)) = (0 : Int32) then p3 else (if (p4 &&& (1 : Int32)) = (0 : Int32) then p2 else p1)) else p1)))])) (fun t k => ?_) ?_
  · show Steps p.tables e below (T33.setTop (mkF m 102 #[.val (.int p1), .val (.int p2), .val (.int p3), .val (.int p4), .val (.int p1), .val (.int (if (p4 &&& (1 : Int32)) = (0 : Int32) then p2 else p1)), .val (.int (if (p4 &&& (4 : Int32)) = (0 : Int32) then (if (p4 &&& (2 : Int32)) = (0 : Int32) then p3 else (if (p4 &&& (1 : Int32)) = (0 : Int32) then p2 else p1)) else p1)), .val (.ref b25), .val (.int (frm3 p1 (frm3 (if (p4 &&& (1 : Int32)) = (0 : Int32) then p2 else p1) (if (p4 &&& (4 : Int32)) = (0 : Int32) then (if (p4 &&& (2 : Int32)) = (0 : Int32) then p3 else (if (p4 &&& (1 : Int32)) = (0 : Int32) then p2 else p1)) else p1)))), .val (.int (frm4 p1 (frm4 (if (p4 &&& (1 : Int32)) = (0 : Int32) then p2 else p1) (if (p4 &&& (4 : Int32)) = (0 : Int32) then (if (p4 &&& (2 : Int32)) = (0 : Int32) then p3 else (if (p4 &&& (1 : Int32)) = (0 : Int32) then p2 else p1)) else p1)))), .val (.int (if (frm3 p1 (frm3 (if (p4 &&& (1 : Int32)) = (0 : Int32) then p2 else p1) (if (p4 &&& (4 : Int32)) = (0 : Int32) then (if (p4 &&& (2 : Int32)) = (0 : Int32) then p3 else (if (p4 &&& (1 : Int32)) = (0 : Int32) then p2 else p1)) else p1))) = (frm4 p1 (frm4 (if (p4 &&& (1 : Int32)) = (0 : Int32) then p2 else p1) (if (p4 &&& (4 : Int32)) = (0 : Int32) then (if (p4 &&& (2 : Int32)) = (0 : Int32) then p3 else (if (p4 &&& (1 : Int32)) = (0 : Int32) then p2 else p1)) else p1))) then (0 : Int32) else (1 : Int32)))] [(.int (frm5 p1 (if (p4 &&& (1 : Int32)) = (0 : Int32) then p2 else p1) (if (p4 &&& (4 : Int32)) = (0 : Int32) then (if (p4 &&& (2 : Int32)) = (0 : Int32) then p3 else (if (p4 &&& (1 : Int32)) = (0 : Int32) then p2 else p1)) else p1)))])) _
    refine XS.iload X33.here hx rfl (hb hby at_102) rfl ?_
    exact k
  by_cases hc104_34 : (frm5 p1 (if (p4 &&& (1 : Int32)) = (0 : Int32) then p2 else p1) (if (p4 &&& (4 : Int32)) = (0 : Int32) then (if (p4 &&& (2 : Int32)) = (0 : Int32) then p3 else (if (p4 &&& (1 : Int32)) = (0 : Int32) then p2 else p1)) else p1)) = (if (frm3 p1 (frm3 (if (p4 &&& (1 : Int32)) = (0 : Int32) then p2 else p1) (if (p4 &&& (4 : Int32)) = (0 : Int32) then (if (p4 &&& (2 : Int32)) = (0 : Int32) then p3 else (if (p4 &&& (1 : Int32)) = (0 : Int32) then p2 else p1)) else p1))) = (frm4 p1 (frm4 (if (p4 &&& (1 : Int32)) = (0 : Int32) then p2 else p1) (if (p4 &&& (4 : Int32)) = (0 : Int32) then (if (p4 &&& (2 : Int32)) = (0 : Int32) then p3 else (if (p4 &&& (1 : Int32)) = (0 : Int32) then p2 else p1)) else p1))) then (0 : Int32) else (1 : Int32))
  · refine own_go (A := T33.setTop (mkF m 104 #[.val (.int p1), .val (.int p2), .val (.int p3), .val (.int p4), .val (.int p1), .val (.int (if (p4 &&& (1 : Int32)) = (0 : Int32) then p2 else p1)), .val (.int (if (p4 &&& (4 : Int32)) = (0 : Int32) then (if (p4 &&& (2 : Int32)) = (0 : Int32) then p3 else (if (p4 &&& (1 : Int32)) = (0 : Int32) then p2 else p1)) else p1)), .val (.ref b25), .val (.int (frm3 p1 (frm3 (if (p4 &&& (1 : Int32)) = (0 : Int32) then p2 else p1) (if (p4 &&& (4 : Int32)) = (0 : Int32) then (if (p4 &&& (2 : Int32)) = (0 : Int32) then p3 else (if (p4 &&& (1 : Int32)) = (0 : Int32) then p2 else p1)) else p1)))), .val (.int (frm4 p1 (frm4 (if (p4 &&& (1 : Int32)) = (0 : Int32) then p2 else p1) (if (p4 &&& (4 : Int32)) = (0 : Int32) then (if (p4 &&& (2 : Int32)) = (0 : Int32) then p3 else (if (p4 &&& (1 : Int32)) = (0 : Int32) then p2 else p1)) else p1)))), .val (.int (if (frm3 p1 (frm3 (if (p4 &&& (1 : Int32)) = (0 : Int32) then p2 else p1) (if (p4 &&& (4 : Int32)) = (0 : Int32) then (if (p4 &&& (2 : Int32)) = (0 : Int32) then p3 else (if (p4 &&& (1 : Int32)) = (0 : Int32) then p2 else p1)) else p1))) = (frm4 p1 (frm4 (if (p4 &&& (1 : Int32)) = (0 : Int32) then p2 else p1) (if (p4 &&& (4 : Int32)) = (0 : Int32) then (if (p4 &&& (2 : Int32)) = (0 : Int32) then p3 else (if (p4 &&& (1 : Int32)) = (0 : Int32) then p2 else p1)) else p1))) then (0 : Int32) else (1 : Int32)))] [(.int (if (frm3 p1 (frm3 (if (p4 &&& (1 : Int32)) = (0 : Int32) then p2 else p1) (if (p4 &&& (4 : Int32)) = (0 : Int32) then (if (p4 &&& (2 : Int32)) = (0 : Int32) then p3 else (if (p4 &&& (1 : Int32)) = (0 : Int32) then p2 else p1)) else p1))) = (frm4 p1 (frm4 (if (p4 &&& (1 : Int32)) = (0 : Int32) then p2 else p1) (if (p4 &&& (4 : Int32)) = (0 : Int32) then (if (p4 &&& (2 : Int32)) = (0 : Int32) then p3 else (if (p4 &&& (1 : Int32)) = (0 : Int32) then p2 else p1)) else p1))) then (0 : Int32) else (1 : Int32))), (.int (frm5 p1 (if (p4 &&& (1 : Int32)) = (0 : Int32) then p2 else p1) (if (p4 &&& (4 : Int32)) = (0 : Int32) then (if (p4 &&& (2 : Int32)) = (0 : Int32) then p3 else (if (p4 &&& (1 : Int32)) = (0 : Int32) then p2 else p1)) else p1)))])) (B := T33.setTop (mkF m 107 #[.val (.int p1), .val (.int p2), .val (.int p3), .val (.int p4), .val (.int p1), .val (.int (if (p4 &&& (1 : Int32)) = (0 : Int32) then p2 else p1)), .val (.int (if (p4 &&& (4 : Int32)) = (0 : Int32) then (if (p4 &&& (2 : Int32)) = (0 : Int32) then p3 else (if (p4 &&& (1 : Int32)) = (0 : Int32) then p2 else p1)) else p1)), .val (.ref b25), .val (.int (frm3 p1 (frm3 (if (p4 &&& (1 : Int32)) = (0 : Int32) then p2 else p1) (if (p4 &&& (4 : Int32)) = (0 : Int32) then (if (p4 &&& (2 : Int32)) = (0 : Int32) then p3 else (if (p4 &&& (1 : Int32)) = (0 : Int32) then p2 else p1)) else p1)))), .val (.int (frm4 p1 (frm4 (if (p4 &&& (1 : Int32)) = (0 : Int32) then p2 else p1) (if (p4 &&& (4 : Int32)) = (0 : Int32) then (if (p4 &&& (2 : Int32)) = (0 : Int32) then p3 else (if (p4 &&& (1 : Int32)) = (0 : Int32) then p2 else p1)) else p1)))), .val (.int (if (frm3 p1 (frm3 (if (p4 &&& (1 : Int32)) = (0 : Int32) then p2 else p1) (if (p4 &&& (4 : Int32)) = (0 : Int32) then (if (p4 &&& (2 : Int32)) = (0 : Int32) then p3 else (if (p4 &&& (1 : Int32)) = (0 : Int32) then p2 else p1)) else p1))) = (frm4 p1 (frm4 (if (p4 &&& (1 : Int32)) = (0 : Int32) then p2 else p1) (if (p4 &&& (4 : Int32)) = (0 : Int32) then (if (p4 &&& (2 : Int32)) = (0 : Int32) then p3 else (if (p4 &&& (1 : Int32)) = (0 : Int32) then p2 else p1)) else p1))) then (0 : Int32) else (1 : Int32)))] [])) (fun t k => ?_) ?_
    · show Steps p.tables e below (T33.setTop (mkF m 104 #[.val (.int p1), .val (.int p2), .val (.int p3), .val (.int p4), .val (.int p1), .val (.int (if (p4 &&& (1 : Int32)) = (0 : Int32) then p2 else p1)), .val (.int (if (p4 &&& (4 : Int32)) = (0 : Int32) then (if (p4 &&& (2 : Int32)) = (0 : Int32) then p3 else (if (p4 &&& (1 : Int32)) = (0 : Int32) then p2 else p1)) else p1)), .val (.ref b25), .val (.int (frm3 p1 (frm3 (if (p4 &&& (1 : Int32)) = (0 : Int32) then p2 else p1) (if (p4 &&& (4 : Int32)) = (0 : Int32) then (if (p4 &&& (2 : Int32)) = (0 : Int32) then p3 else (if (p4 &&& (1 : Int32)) = (0 : Int32) then p2 else p1)) else p1)))), .val (.int (frm4 p1 (frm4 (if (p4 &&& (1 : Int32)) = (0 : Int32) then p2 else p1) (if (p4 &&& (4 : Int32)) = (0 : Int32) then (if (p4 &&& (2 : Int32)) = (0 : Int32) then p3 else (if (p4 &&& (1 : Int32)) = (0 : Int32) then p2 else p1)) else p1)))), .val (.int (if (frm3 p1 (frm3 (if (p4 &&& (1 : Int32)) = (0 : Int32) then p2 else p1) (if (p4 &&& (4 : Int32)) = (0 : Int32) then (if (p4 &&& (2 : Int32)) = (0 : Int32) then p3 else (if (p4 &&& (1 : Int32)) = (0 : Int32) then p2 else p1)) else p1))) = (frm4 p1 (frm4 (if (p4 &&& (1 : Int32)) = (0 : Int32) then p2 else p1) (if (p4 &&& (4 : Int32)) = (0 : Int32) then (if (p4 &&& (2 : Int32)) = (0 : Int32) then p3 else (if (p4 &&& (1 : Int32)) = (0 : Int32) then p2 else p1)) else p1))) then (0 : Int32) else (1 : Int32)))] [(.int (if (frm3 p1 (frm3 (if (p4 &&& (1 : Int32)) = (0 : Int32) then p2 else p1) (if (p4 &&& (4 : Int32)) = (0 : Int32) then (if (p4 &&& (2 : Int32)) = (0 : Int32) then p3 else (if (p4 &&& (1 : Int32)) = (0 : Int32) then p2 else p1)) else p1))) = (frm4 p1 (frm4 (if (p4 &&& (1 : Int32)) = (0 : Int32) then p2 else p1) (if (p4 &&& (4 : Int32)) = (0 : Int32) then (if (p4 &&& (2 : Int32)) = (0 : Int32) then p3 else (if (p4 &&& (1 : Int32)) = (0 : Int32) then p2 else p1)) else p1))) then (0 : Int32) else (1 : Int32))), (.int (frm5 p1 (if (p4 &&& (1 : Int32)) = (0 : Int32) then p2 else p1) (if (p4 &&& (4 : Int32)) = (0 : Int32) then (if (p4 &&& (2 : Int32)) = (0 : Int32) then p3 else (if (p4 &&& (1 : Int32)) = (0 : Int32) then p2 else p1)) else p1)))])) _
      refine XS.icmpNo X33.here hx rfl (hb hby at_104) rfl (teq hc104_34).2 ?_
      exact k
    refine own_go (A := T33.setTop (mkF m 107 #[.val (.int p1), .val (.int p2), .val (.int p3), .val (.int p4), .val (.int p1), .val (.int (if (p4 &&& (1 : Int32)) = (0 : Int32) then p2 else p1)), .val (.int (if (p4 &&& (4 : Int32)) = (0 : Int32) then (if (p4 &&& (2 : Int32)) = (0 : Int32) then p3 else (if (p4 &&& (1 : Int32)) = (0 : Int32) then p2 else p1)) else p1)), .val (.ref b25), .val (.int (frm3 p1 (frm3 (if (p4 &&& (1 : Int32)) = (0 : Int32) then p2 else p1) (if (p4 &&& (4 : Int32)) = (0 : Int32) then (if (p4 &&& (2 : Int32)) = (0 : Int32) then p3 else (if (p4 &&& (1 : Int32)) = (0 : Int32) then p2 else p1)) else p1)))), .val (.int (frm4 p1 (frm4 (if (p4 &&& (1 : Int32)) = (0 : Int32) then p2 else p1) (if (p4 &&& (4 : Int32)) = (0 : Int32) then (if (p4 &&& (2 : Int32)) = (0 : Int32) then p3 else (if (p4 &&& (1 : Int32)) = (0 : Int32) then p2 else p1)) else p1)))), .val (.int (if (frm3 p1 (frm3 (if (p4 &&& (1 : Int32)) = (0 : Int32) then p2 else p1) (if (p4 &&& (4 : Int32)) = (0 : Int32) then (if (p4 &&& (2 : Int32)) = (0 : Int32) then p3 else (if (p4 &&& (1 : Int32)) = (0 : Int32) then p2 else p1)) else p1))) = (frm4 p1 (frm4 (if (p4 &&& (1 : Int32)) = (0 : Int32) then p2 else p1) (if (p4 &&& (4 : Int32)) = (0 : Int32) then (if (p4 &&& (2 : Int32)) = (0 : Int32) then p3 else (if (p4 &&& (1 : Int32)) = (0 : Int32) then p2 else p1)) else p1))) then (0 : Int32) else (1 : Int32)))] [])) (B := T33.setTop (mkF m 112 #[.val (.int p1), .val (.int p2), .val (.int p3), .val (.int p4), .val (.int p1), .val (.int (if (p4 &&& (1 : Int32)) = (0 : Int32) then p2 else p1)), .val (.int (if (p4 &&& (4 : Int32)) = (0 : Int32) then (if (p4 &&& (2 : Int32)) = (0 : Int32) then p3 else (if (p4 &&& (1 : Int32)) = (0 : Int32) then p2 else p1)) else p1)), .val (.ref b25), .val (.int (frm3 p1 (frm3 (if (p4 &&& (1 : Int32)) = (0 : Int32) then p2 else p1) (if (p4 &&& (4 : Int32)) = (0 : Int32) then (if (p4 &&& (2 : Int32)) = (0 : Int32) then p3 else (if (p4 &&& (1 : Int32)) = (0 : Int32) then p2 else p1)) else p1)))), .val (.int (frm4 p1 (frm4 (if (p4 &&& (1 : Int32)) = (0 : Int32) then p2 else p1) (if (p4 &&& (4 : Int32)) = (0 : Int32) then (if (p4 &&& (2 : Int32)) = (0 : Int32) then p3 else (if (p4 &&& (1 : Int32)) = (0 : Int32) then p2 else p1)) else p1)))), .val (.int (if (frm3 p1 (frm3 (if (p4 &&& (1 : Int32)) = (0 : Int32) then p2 else p1) (if (p4 &&& (4 : Int32)) = (0 : Int32) then (if (p4 &&& (2 : Int32)) = (0 : Int32) then p3 else (if (p4 &&& (1 : Int32)) = (0 : Int32) then p2 else p1)) else p1))) = (frm4 p1 (frm4 (if (p4 &&& (1 : Int32)) = (0 : Int32) then p2 else p1) (if (p4 &&& (4 : Int32)) = (0 : Int32) then (if (p4 &&& (2 : Int32)) = (0 : Int32) then p3 else (if (p4 &&& (1 : Int32)) = (0 : Int32) then p2 else p1)) else p1))) then (0 : Int32) else (1 : Int32)))] [(.int (1 : Int32))])) (fun t k => ?_) ?_
    · show Steps p.tables e below (T33.setTop (mkF m 107 #[.val (.int p1), .val (.int p2), .val (.int p3), .val (.int p4), .val (.int p1), .val (.int (if (p4 &&& (1 : Int32)) = (0 : Int32) then p2 else p1)), .val (.int (if (p4 &&& (4 : Int32)) = (0 : Int32) then (if (p4 &&& (2 : Int32)) = (0 : Int32) then p3 else (if (p4 &&& (1 : Int32)) = (0 : Int32) then p2 else p1)) else p1)), .val (.ref b25), .val (.int (frm3 p1 (frm3 (if (p4 &&& (1 : Int32)) = (0 : Int32) then p2 else p1) (if (p4 &&& (4 : Int32)) = (0 : Int32) then (if (p4 &&& (2 : Int32)) = (0 : Int32) then p3 else (if (p4 &&& (1 : Int32)) = (0 : Int32) then p2 else p1)) else p1)))), .val (.int (frm4 p1 (frm4 (if (p4 &&& (1 : Int32)) = (0 : Int32) then p2 else p1) (if (p4 &&& (4 : Int32)) = (0 : Int32) then (if (p4 &&& (2 : Int32)) = (0 : Int32) then p3 else (if (p4 &&& (1 : Int32)) = (0 : Int32) then p2 else p1)) else p1)))), .val (.int (if (frm3 p1 (frm3 (if (p4 &&& (1 : Int32)) = (0 : Int32) then p2 else p1) (if (p4 &&& (4 : Int32)) = (0 : Int32) then (if (p4 &&& (2 : Int32)) = (0 : Int32) then p3 else (if (p4 &&& (1 : Int32)) = (0 : Int32) then p2 else p1)) else p1))) = (frm4 p1 (frm4 (if (p4 &&& (1 : Int32)) = (0 : Int32) then p2 else p1) (if (p4 &&& (4 : Int32)) = (0 : Int32) then (if (p4 &&& (2 : Int32)) = (0 : Int32) then p3 else (if (p4 &&& (1 : Int32)) = (0 : Int32) then p2 else p1)) else p1))) then (0 : Int32) else (1 : Int32)))] [])) _
      refine XS.iconst X33.here hx rfl (hb hby at_107) ?_
      show Steps p.tables e below (T33.setTop (mkF m 108 #[.val (.int p1), .val (.int p2), .val (.int p3), .val (.int p4), .val (.int p1), .val (.int (if (p4 &&& (1 : Int32)) = (0 : Int32) then p2 else p1)), .val (.int (if (p4 &&& (4 : Int32)) = (0 : Int32) then (if (p4 &&& (2 : Int32)) = (0 : Int32) then p3 else (if (p4 &&& (1 : Int32)) = (0 : Int32) then p2 else p1)) else p1)), .val (.ref b25), .val (.int (frm3 p1 (frm3 (if (p4 &&& (1 : Int32)) = (0 : Int32) then p2 else p1) (if (p4 &&& (4 : Int32)) = (0 : Int32) then (if (p4 &&& (2 : Int32)) = (0 : Int32) then p3 else (if (p4 &&& (1 : Int32)) = (0 : Int32) then p2 else p1)) else p1)))), .val (.int (frm4 p1 (frm4 (if (p4 &&& (1 : Int32)) = (0 : Int32) then p2 else p1) (if (p4 &&& (4 : Int32)) = (0 : Int32) then (if (p4 &&& (2 : Int32)) = (0 : Int32) then p3 else (if (p4 &&& (1 : Int32)) = (0 : Int32) then p2 else p1)) else p1)))), .val (.int (if (frm3 p1 (frm3 (if (p4 &&& (1 : Int32)) = (0 : Int32) then p2 else p1) (if (p4 &&& (4 : Int32)) = (0 : Int32) then (if (p4 &&& (2 : Int32)) = (0 : Int32) then p3 else (if (p4 &&& (1 : Int32)) = (0 : Int32) then p2 else p1)) else p1))) = (frm4 p1 (frm4 (if (p4 &&& (1 : Int32)) = (0 : Int32) then p2 else p1) (if (p4 &&& (4 : Int32)) = (0 : Int32) then (if (p4 &&& (2 : Int32)) = (0 : Int32) then p3 else (if (p4 &&& (1 : Int32)) = (0 : Int32) then p2 else p1)) else p1))) then (0 : Int32) else (1 : Int32)))] [(.int (1 : Int32))])) _
      refine XS.goto X33.here hx rfl (pc0 := 108) (pc' := 112) rfl (hb hby at_108) (by decide) (by decide) ?_
      exact k
    obtain ⟨fs, hr, hrun, hended, hW, hsame⟩ := X33.leave (v := some (.int (1 : Int32))) (fun h => by rw [Bd.returns] at h; cases h)
    refine ⟨_, _, ?_, hrun, hended, _, _, rfl, ?_, ⟨_, rfl⟩, hW, hsame.mono (by decide) (by decide)⟩
    · show Steps p.tables e below (T33.setTop (mkF m 112 #[.val (.int p1), .val (.int p2), .val (.int p3), .val (.int p4), .val (.int p1), .val (.int (if (p4 &&& (1 : Int32)) = (0 : Int32) then p2 else p1)), .val (.int (if (p4 &&& (4 : Int32)) = (0 : Int32) then (if (p4 &&& (2 : Int32)) = (0 : Int32) then p3 else (if (p4 &&& (1 : Int32)) = (0 : Int32) then p2 else p1)) else p1)), .val (.ref b25), .val (.int (frm3 p1 (frm3 (if (p4 &&& (1 : Int32)) = (0 : Int32) then p2 else p1) (if (p4 &&& (4 : Int32)) = (0 : Int32) then (if (p4 &&& (2 : Int32)) = (0 : Int32) then p3 else (if (p4 &&& (1 : Int32)) = (0 : Int32) then p2 else p1)) else p1)))), .val (.int (frm4 p1 (frm4 (if (p4 &&& (1 : Int32)) = (0 : Int32) then p2 else p1) (if (p4 &&& (4 : Int32)) = (0 : Int32) then (if (p4 &&& (2 : Int32)) = (0 : Int32) then p3 else (if (p4 &&& (1 : Int32)) = (0 : Int32) then p2 else p1)) else p1)))), .val (.int (if (frm3 p1 (frm3 (if (p4 &&& (1 : Int32)) = (0 : Int32) then p2 else p1) (if (p4 &&& (4 : Int32)) = (0 : Int32) then (if (p4 &&& (2 : Int32)) = (0 : Int32) then p3 else (if (p4 &&& (1 : Int32)) = (0 : Int32) then p2 else p1)) else p1))) = (frm4 p1 (frm4 (if (p4 &&& (1 : Int32)) = (0 : Int32) then p2 else p1) (if (p4 &&& (4 : Int32)) = (0 : Int32) then (if (p4 &&& (2 : Int32)) = (0 : Int32) then p3 else (if (p4 &&& (1 : Int32)) = (0 : Int32) then p2 else p1)) else p1))) then (0 : Int32) else (1 : Int32)))] [(.int (1 : Int32))])) _
      exact retN X33 hx (t := .boolean) Bd.returns (by simp) (hb hby at_112) hr
    · show Qrm0 Z p1 p2 p3 p4 h0 n0 _ T33.heap _
      rw [e33]
      exact ⟨(by simp only [frm0, if_pos hc104_34]), N33⟩
  · refine own_go (A := T33.setTop (mkF m 104 #[.val (.int p1), .val (.int p2), .val (.int p3), .val (.int p4), .val (.int p1), .val (.int (if (p4 &&& (1 : Int32)) = (0 : Int32) then p2 else p1)), .val (.int (if (p4 &&& (4 : Int32)) = (0 : Int32) then (if (p4 &&& (2 : Int32)) = (0 : Int32) then p3 else (if (p4 &&& (1 : Int32)) = (0 : Int32) then p2 else p1)) else p1)), .val (.ref b25), .val (.int (frm3 p1 (frm3 (if (p4 &&& (1 : Int32)) = (0 : Int32) then p2 else p1) (if (p4 &&& (4 : Int32)) = (0 : Int32) then (if (p4 &&& (2 : Int32)) = (0 : Int32) then p3 else (if (p4 &&& (1 : Int32)) = (0 : Int32) then p2 else p1)) else p1)))), .val (.int (frm4 p1 (frm4 (if (p4 &&& (1 : Int32)) = (0 : Int32) then p2 else p1) (if (p4 &&& (4 : Int32)) = (0 : Int32) then (if (p4 &&& (2 : Int32)) = (0 : Int32) then p3 else (if (p4 &&& (1 : Int32)) = (0 : Int32) then p2 else p1)) else p1)))), .val (.int (if (frm3 p1 (frm3 (if (p4 &&& (1 : Int32)) = (0 : Int32) then p2 else p1) (if (p4 &&& (4 : Int32)) = (0 : Int32) then (if (p4 &&& (2 : Int32)) = (0 : Int32) then p3 else (if (p4 &&& (1 : Int32)) = (0 : Int32) then p2 else p1)) else p1))) = (frm4 p1 (frm4 (if (p4 &&& (1 : Int32)) = (0 : Int32) then p2 else p1) (if (p4 &&& (4 : Int32)) = (0 : Int32) then (if (p4 &&& (2 : Int32)) = (0 : Int32) then p3 else (if (p4 &&& (1 : Int32)) = (0 : Int32) then p2 else p1)) else p1))) then (0 : Int32) else (1 : Int32)))] [(.int (if (frm3 p1 (frm3 (if (p4 &&& (1 : Int32)) = (0 : Int32) then p2 else p1) (if (p4 &&& (4 : Int32)) = (0 : Int32) then (if (p4 &&& (2 : Int32)) = (0 : Int32) then p3 else (if (p4 &&& (1 : Int32)) = (0 : Int32) then p2 else p1)) else p1))) = (frm4 p1 (frm4 (if (p4 &&& (1 : Int32)) = (0 : Int32) then p2 else p1) (if (p4 &&& (4 : Int32)) = (0 : Int32) then (if (p4 &&& (2 : Int32)) = (0 : Int32) then p3 else (if (p4 &&& (1 : Int32)) = (0 : Int32) then p2 else p1)) else p1))) then (0 : Int32) else (1 : Int32))), (.int (frm5 p1 (if (p4 &&& (1 : Int32)) = (0 : Int32) then p2 else p1) (if (p4 &&& (4 : Int32)) = (0 : Int32) then (if (p4 &&& (2 : Int32)) = (0 : Int32) then p3 else (if (p4 &&& (1 : Int32)) = (0 : Int32) then p2 else p1)) else p1)))])) (B := T33.setTop (mkF m 111 #[.val (.int p1), .val (.int p2), .val (.int p3), .val (.int p4), .val (.int p1), .val (.int (if (p4 &&& (1 : Int32)) = (0 : Int32) then p2 else p1)), .val (.int (if (p4 &&& (4 : Int32)) = (0 : Int32) then (if (p4 &&& (2 : Int32)) = (0 : Int32) then p3 else (if (p4 &&& (1 : Int32)) = (0 : Int32) then p2 else p1)) else p1)), .val (.ref b25), .val (.int (frm3 p1 (frm3 (if (p4 &&& (1 : Int32)) = (0 : Int32) then p2 else p1) (if (p4 &&& (4 : Int32)) = (0 : Int32) then (if (p4 &&& (2 : Int32)) = (0 : Int32) then p3 else (if (p4 &&& (1 : Int32)) = (0 : Int32) then p2 else p1)) else p1)))), .val (.int (frm4 p1 (frm4 (if (p4 &&& (1 : Int32)) = (0 : Int32) then p2 else p1) (if (p4 &&& (4 : Int32)) = (0 : Int32) then (if (p4 &&& (2 : Int32)) = (0 : Int32) then p3 else (if (p4 &&& (1 : Int32)) = (0 : Int32) then p2 else p1)) else p1)))), .val (.int (if (frm3 p1 (frm3 (if (p4 &&& (1 : Int32)) = (0 : Int32) then p2 else p1) (if (p4 &&& (4 : Int32)) = (0 : Int32) then (if (p4 &&& (2 : Int32)) = (0 : Int32) then p3 else (if (p4 &&& (1 : Int32)) = (0 : Int32) then p2 else p1)) else p1))) = (frm4 p1 (frm4 (if (p4 &&& (1 : Int32)) = (0 : Int32) then p2 else p1) (if (p4 &&& (4 : Int32)) = (0 : Int32) then (if (p4 &&& (2 : Int32)) = (0 : Int32) then p3 else (if (p4 &&& (1 : Int32)) = (0 : Int32) then p2 else p1)) else p1))) then (0 : Int32) else (1 : Int32)))] [])) (fun t k => ?_) ?_
    · show Steps p.tables e below (T33.setTop (mkF m 104 #[.val (.int p1), .val (.int p2), .val (.int p3), .val (.int p4), .val (.int p1), .val (.int (if (p4 &&& (1 : Int32)) = (0 : Int32) then p2 else p1)), .val (.int (if (p4 &&& (4 : Int32)) = (0 : Int32) then (if (p4 &&& (2 : Int32)) = (0 : Int32) then p3 else (if (p4 &&& (1 : Int32)) = (0 : Int32) then p2 else p1)) else p1)), .val (.ref b25), .val (.int (frm3 p1 (frm3 (if (p4 &&& (1 : Int32)) = (0 : Int32) then p2 else p1) (if (p4 &&& (4 : Int32)) = (0 : Int32) then (if (p4 &&& (2 : Int32)) = (0 : Int32) then p3 else (if (p4 &&& (1 : Int32)) = (0 : Int32) then p2 else p1)) else p1)))), .val (.int (frm4 p1 (frm4 (if (p4 &&& (1 : Int32)) = (0 : Int32) then p2 else p1) (if (p4 &&& (4 : Int32)) = (0 : Int32) then (if (p4 &&& (2 : Int32)) = (0 : Int32) then p3 else (if (p4 &&& (1 : Int32)) = (0 : Int32) then p2 else p1)) else p1)))), .val (.int (if (frm3 p1 (frm3 (if (p4 &&& (1 : Int32)) = (0 : Int32) then p2 else p1) (if (p4 &&& (4 : Int32)) = (0 : Int32) then (if (p4 &&& (2 : Int32)) = (0 : Int32) then p3 else (if (p4 &&& (1 : Int32)) = (0 : Int32) then p2 else p1)) else p1))) = (frm4 p1 (frm4 (if (p4 &&& (1 : Int32)) = (0 : Int32) then p2 else p1) (if (p4 &&& (4 : Int32)) = (0 : Int32) then (if (p4 &&& (2 : Int32)) = (0 : Int32) then p3 else (if (p4 &&& (1 : Int32)) = (0 : Int32) then p2 else p1)) else p1))) then (0 : Int32) else (1 : Int32)))] [(.int (if (frm3 p1 (frm3 (if (p4 &&& (1 : Int32)) = (0 : Int32) then p2 else p1) (if (p4 &&& (4 : Int32)) = (0 : Int32) then (if (p4 &&& (2 : Int32)) = (0 : Int32) then p3 else (if (p4 &&& (1 : Int32)) = (0 : Int32) then p2 else p1)) else p1))) = (frm4 p1 (frm4 (if (p4 &&& (1 : Int32)) = (0 : Int32) then p2 else p1) (if (p4 &&& (4 : Int32)) = (0 : Int32) then (if (p4 &&& (2 : Int32)) = (0 : Int32) then p3 else (if (p4 &&& (1 : Int32)) = (0 : Int32) then p2 else p1)) else p1))) then (0 : Int32) else (1 : Int32))), (.int (frm5 p1 (if (p4 &&& (1 : Int32)) = (0 : Int32) then p2 else p1) (if (p4 &&& (4 : Int32)) = (0 : Int32) then (if (p4 &&& (2 : Int32)) = (0 : Int32) then p3 else (if (p4 &&& (1 : Int32)) = (0 : Int32) then p2 else p1)) else p1)))])) _
      refine XS.icmpYes X33.here hx rfl (pc0 := 104) (pc' := 111) rfl (hb hby at_104) rfl (feq hc104_34).2 (by decide) (by decide) ?_
      exact k
    refine own_go (A := T33.setTop (mkF m 111 #[.val (.int p1), .val (.int p2), .val (.int p3), .val (.int p4), .val (.int p1), .val (.int (if (p4 &&& (1 : Int32)) = (0 : Int32) then p2 else p1)), .val (.int (if (p4 &&& (4 : Int32)) = (0 : Int32) then (if (p4 &&& (2 : Int32)) = (0 : Int32) then p3 else (if (p4 &&& (1 : Int32)) = (0 : Int32) then p2 else p1)) else p1)), .val (.ref b25), .val (.int (frm3 p1 (frm3 (if (p4 &&& (1 : Int32)) = (0 : Int32) then p2 else p1) (if (p4 &&& (4 : Int32)) = (0 : Int32) then (if (p4 &&& (2 : Int32)) = (0 : Int32) then p3 else (if (p4 &&& (1 : Int32)) = (0 : Int32) then p2 else p1)) else p1)))), .val (.int (frm4 p1 (frm4 (if (p4 &&& (1 : Int32)) = (0 : Int32) then p2 else p1) (if (p4 &&& (4 : Int32)) = (0 : Int32) then (if (p4 &&& (2 : Int32)) = (0 : Int32) then p3 else (if (p4 &&& (1 : Int32)) = (0 : Int32) then p2 else p1)) else p1)))), .val (.int (if (frm3 p1 (frm3 (if (p4 &&& (1 : Int32)) = (0 : Int32) then p2 else p1) (if (p4 &&& (4 : Int32)) = (0 : Int32) then (if (p4 &&& (2 : Int32)) = (0 : Int32) then p3 else (if (p4 &&& (1 : Int32)) = (0 : Int32) then p2 else p1)) else p1))) = (frm4 p1 (frm4 (if (p4 &&& (1 : Int32)) = (0 : Int32) then p2 else p1) (if (p4 &&& (4 : Int32)) = (0 : Int32) then (if (p4 &&& (2 : Int32)) = (0 : Int32) then p3 else (if (p4 &&& (1 : Int32)) = (0 : Int32) then p2 else p1)) else p1))) then (0 : Int32) else (1 : Int32)))] [])) (B := T33.setTop (mkF m 112 #[.val (.int p1), .val (.int p2), .val (.int p3), .val (.int p4), .val (.int p1), .val (.int (if (p4 &&& (1 : Int32)) = (0 : Int32) then p2 else p1)), .val (.int (if (p4 &&& (4 : Int32)) = (0 : Int32) then (if (p4 &&& (2 : Int32)) = (0 : Int32) then p3 else (if (p4 &&& (1 : Int32)) = (0 : Int32) then p2 else p1)) else p1)), .val (.ref b25), .val (.int (frm3 p1 (frm3 (if (p4 &&& (1 : Int32)) = (0 : Int32) then p2 else p1) (if (p4 &&& (4 : Int32)) = (0 : Int32) then (if (p4 &&& (2 : Int32)) = (0 : Int32) then p3 else (if (p4 &&& (1 : Int32)) = (0 : Int32) then p2 else p1)) else p1)))), .val (.int (frm4 p1 (frm4 (if (p4 &&& (1 : Int32)) = (0 : Int32) then p2 else p1) (if (p4 &&& (4 : Int32)) = (0 : Int32) then (if (p4 &&& (2 : Int32)) = (0 : Int32) then p3 else (if (p4 &&& (1 : Int32)) = (0 : Int32) then p2 else p1)) else p1)))), .val (.int (if (frm3 p1 (frm3 (if (p4 &&& (1 : Int32)) = (0 : Int32) then p2 else p1) (if (p4 &&& (4 : Int32)) = (0 : Int32) then (if (p4 &&& (2 : Int32)) = (0 : Int32) then p3 else (if (p4 &&& (1 : Int32)) = (0 : Int32) then p2 else p1)) else p1))) = (frm4 p1 (frm4 (if (p4 &&& (1 : Int32)) = (0 : Int32) then p2 else p1) (if (p4 &&& (4 : Int32)) = (0 : Int32) then (if (p4 &&& (2 : Int32)) = (0 : Int32) then p3 else (if (p4 &&& (1 : Int32)) = (0 : Int32) then p2 else p1)) else p1))) then (0 : Int32) else (1 : Int32)))] [(.int (0 : Int32))])) (fun t k => ?_) ?_
    · show Steps p.tables e below (T33.setTop (mkF m 111 #[.val (.int p1), .val (.int p2), .val (.int p3), .val (.int p4), .val (.int p1), .val (.int (if (p4 &&& (1 : Int32)) = (0 : Int32) then p2 else p1)), .val (.int (if (p4 &&& (4 : Int32)) = (0 : Int32) then (if (p4 &&& (2 : Int32)) = (0 : Int32) then p3 else (if (p4 &&& (1 : Int32)) = (0 : Int32) then p2 else p1)) else p1)), .val (.ref b25), .val (.int (frm3 p1 (frm3 (if (p4 &&& (1 : Int32)) = (0 : Int32) then p2 else p1) (if (p4 &&& (4 : Int32)) = (0 : Int32) then (if (p4 &&& (2 : Int32)) = (0 : Int32) then p3 else (if (p4 &&& (1 : Int32)) = (0 : Int32) then p2 else p1)) else p1)))), .val (.int (frm4 p1 (frm4 (if (p4 &&& (1 : Int32)) = (0 : Int32) then p2 else p1) (if (p4 &&& (4 : Int32)) = (0 : Int32) then (if (p4 &&& (2 : Int32)) = (0 : Int32) then p3 else (if (p4 &&& (1 : Int32)) = (0 : Int32) then p2 else p1)) else p1)))), .val (.int (if (frm3 p1 (frm3 (if (p4 &&& (1 : Int32)) = (0 : Int32) then p2 else p1) (if (p4 &&& (4 : Int32)) = (0 : Int32) then (if (p4 &&& (2 : Int32)) = (0 : Int32) then p3 else (if (p4 &&& (1 : Int32)) = (0 : Int32) then p2 else p1)) else p1))) = (frm4 p1 (frm4 (if (p4 &&& (1 : Int32)) = (0 : Int32) then p2 else p1) (if (p4 &&& (4 : Int32)) = (0 : Int32) then (if (p4 &&& (2 : Int32)) = (0 : Int32) then p3 else (if (p4 &&& (1 : Int32)) = (0 : Int32) then p2 else p1)) else p1))) then (0 : Int32) else (1 : Int32)))] [])) _
      refine XS.iconst X33.here hx rfl (hb hby at_111) ?_
      exact k
    obtain ⟨fs, hr, hrun, hended, hW, hsame⟩ := X33.leave (v := some (.int (0 : Int32))) (fun h => by rw [Bd.returns] at h; cases h)
    refine ⟨_, _, ?_, hrun, hended, _, _, rfl, ?_, ⟨_, rfl⟩, hW, hsame.mono (by decide) (by decide)⟩
    · show Steps p.tables e below (T33.setTop (mkF m 112 #[.val (.int p1), .val (.int p2), .val (.int p3), .val (.int p4), .val (.int p1), .val (.int (if (p4 &&& (1 : Int32)) = (0 : Int32) then p2 else p1)), .val (.int (if (p4 &&& (4 : Int32)) = (0 : Int32) then (if (p4 &&& (2 : Int32)) = (0 : Int32) then p3 else (if (p4 &&& (1 : Int32)) = (0 : Int32) then p2 else p1)) else p1)), .val (.ref b25), .val (.int (frm3 p1 (frm3 (if (p4 &&& (1 : Int32)) = (0 : Int32) then p2 else p1) (if (p4 &&& (4 : Int32)) = (0 : Int32) then (if (p4 &&& (2 : Int32)) = (0 : Int32) then p3 else (if (p4 &&& (1 : Int32)) = (0 : Int32) then p2 else p1)) else p1)))), .val (.int (frm4 p1 (frm4 (if (p4 &&& (1 : Int32)) = (0 : Int32) then p2 else p1) (if (p4 &&& (4 : Int32)) = (0 : Int32) then (if (p4 &&& (2 : Int32)) = (0 : Int32) then p3 else (if (p4 &&& (1 : Int32)) = (0 : Int32) then p2 else p1)) else p1)))), .val (.int (if (frm3 p1 (frm3 (if (p4 &&& (1 : Int32)) = (0 : Int32) then p2 else p1) (if (p4 &&& (4 : Int32)) = (0 : Int32) then (if (p4 &&& (2 : Int32)) = (0 : Int32) then p3 else (if (p4 &&& (1 : Int32)) = (0 : Int32) then p2 else p1)) else p1))) = (frm4 p1 (frm4 (if (p4 &&& (1 : Int32)) = (0 : Int32) then p2 else p1) (if (p4 &&& (4 : Int32)) = (0 : Int32) then (if (p4 &&& (2 : Int32)) = (0 : Int32) then p3 else (if (p4 &&& (1 : Int32)) = (0 : Int32) then p2 else p1)) else p1))) then (0 : Int32) else (1 : Int32)))] [(.int (0 : Int32))])) _
      exact retN X33 hx (t := .boolean) Bd.returns (by simp) (hb hby at_112) hr
    · show Qrm0 Z p1 p2 p3 p4 h0 n0 _ T33.heap _
      rw [e33]
      exact ⟨(by simp only [frm0, if_neg hc104_34]), N33⟩
theorem own_min (a b : Int32) : ((frm3 a b).toInt = a.toInt ∧ a.toInt ≤ b.toInt) ∨ ((frm3 a b).toInt = b.toInt ∧ b.toInt < a.toInt) := by
  unfold frm3
  simp only [Int32.lt_iff_toInt_lt]
  split <;> omega
theorem own_max (a b : Int32) : ((frm4 a b).toInt = b.toInt ∧ a.toInt < b.toInt) ∨ ((frm4 a b).toInt = a.toInt ∧ b.toInt ≤ a.toInt) := by
  unfold frm4
  simp only [Int32.lt_iff_toInt_lt]
  split <;> omega
theorem own_key (a b c : Int32) : frm5 a b c = (if frm3 a (frm3 b c) = frm4 a (frm4 b c) then (0 : Int32) else (1 : Int32)) := by
  have h1 := own_min b c
  have h2 := own_min a (frm3 b c)
  have h3 := own_max b c
  have h4 := own_max a (frm4 b c)
  unfold frm5
  simp only [← Int32.toInt_inj]
  repeat' split
  all_goals first | rfl | (exfalso; omega)
theorem own_law (a b c f : Int32) : frm0 a b c f = 1 := by
  unfold frm0
  rw [own_key]
  rw [if_pos rfl]
set_option maxRecDepth 65536 in
set_option maxHeartbeats 40000000 in
theorem comes_1 {Post : Tables → Env → Array Value → State → Outcome → State → Prop} (hpost : ∀ tb e args s v u, (limb_1_1.after args s (.returned v) u = true ∧ limb_1_2.after args s (.returned v) u = true ∧ True) → FrameEnd s (.returned v) u (Jvm.fieldLocs frame_1_writes args s ++ Jvm.arrayLocs frame_1_arrays args s ++ Jvm.staticLocs frame_1_statics s) 16 128 → Post tb e args s (.returned v) u) :
    ArmFor flags0 classFile x code maxLocals ret World_1 tables_1 room_1 Calls_1 rest_1 Pre_1 Post := by
  intro l hfl _ _ p e ha hc hk s m args below hf hA hF happ hP
  obtain ⟨hcalls, hrest, hpre⟩ := hP
  obtain ⟨-, -, -, hnamed, -, -, -, hat⟩ := (Spec.applies_iff hf).mp happ
  obtain ⟨hg, hn⟩ := and_e (Cond.before_iff.mp (show (Jvm.Cond.and given_1 narrow_1).before args s = true from hpre))
  obtain ⟨hg0, hgs⟩ := and_e hg
  obtain ⟨w0, w1, w2, w3, rfl⟩ : ∃ w0 w1 w2 w3 : Value, args = #[w0, w1, w2, w3] := by
    have hs : args.size = 4 := by simpa [Cond.value, given_1] using hg0
    obtain ⟨L⟩ := args
    match L, hs with
    | [w0, w1, w2, w3], _ => exact ⟨w0, w1, w2, w3, rfl⟩
  have hw := fun d (hd : d ∈ tables_1) => atoms_spec (ws := Jvm.Cond.code x code maxLocals ret :: tables_1) hat d (List.mem_cons_of_mem _ hd)
  have hfit : Fit s := fun {y c} hc i hi => by
    obtain ⟨ha, rfl⟩ := Array.getElem?_eq_some_iff.mp hc
    have q := List.all_eq_true.mp ((Array.all_eq_true_iff_forall_mem.mp hF) _ (Array.getElem_mem ha)) i (List.mem_range.mpr hi)
    simpa [Array.getElem?_eq_getElem hi] using q
  obtain ⟨gi0, gr0⟩ := and_e hgs
  obtain ⟨i0, ei0⟩ := is_v gi0
  obtain rfl : w0 = (.int i0) := Option.some.inj ei0
  obtain ⟨gi1, gr1⟩ := and_e gr0
  obtain ⟨i1, ei1⟩ := is_v gi1
  obtain rfl : w1 = (.int i1) := Option.some.inj ei1
  obtain ⟨gi2, gr2⟩ := and_e gr1
  obtain ⟨i2, ei2⟩ := is_v gi2
  obtain rfl : w2 = (.int i2) := Option.some.inj ei2
  obtain ⟨i3, ei3⟩ := is_v gr2
  obtain rfl : w3 = (.int i3) := Option.some.inj ei3
  obtain ⟨n, o, h1, h2, h3, _, L, rfl, ⟨hv, N⟩, hq⟩ := rm0 l s _ hw tables_1 i0 i1 i2 i3  s.heap s.heap.size (Nat.le_refl _)  p e ha hc hk s m _ below hf ((Spec.applies_iff_loose hf).mp happ).1 ⟨rfl, State.Warmed39.refl s, rfl⟩ trivial
  obtain rfl := hv.trans (by rw [own_law])
  refine ⟨n, _, h1, h2, h3, hpost _ _ _ _ _ _ ⟨Cond.after_iff.mpr rfl, Cond.after_iff.mpr (eq_i res_at (Term.int_eval (1)) rfl), trivial⟩ ⟨hq.1, hq.2.1, (hq.2.2.sift fun y hy => Or.inr (N y hy)).mono (by decide) (by decide)⟩⟩
theorem main_1_1 : Claimed_1_1 := comes_1 fun _ _ _ _ _ _ h hF => ⟨h.1, hF⟩
theorem main_1_2 : Claimed_1_2 := comes_1 fun _ _ _ _ _ _ h hF => ⟨h.2.1, hF⟩
end Jvm.Pilot.@@N@@
namespace Jvm.Pilot.@@N@@
open Jvm Jvm.ClassFile Sem Op Lib Jvm.Free Jvm.Stand Jvm.Pilot.@@N@@.Jvm.D
/-! MADE BY PROGRAM (witnessworld.py) out of the Statement's table words and the real class files: 10 classes; the members and pool entries that the words name. The judged class is class 1, her method 1. -/
namespace start1
open Jvm.ClassFile
def u (s : String) : CpInfo := .utf8 (stringToUtf16 s)
/-- a pool by its gaps: so many unusable entries, then the entry; so many at the end -/
def gap : Nat → List CpInfo → List CpInfo
  | 0, r => r
  | n + 1, r => .unusable :: gap n r
def poolList (es : List (Nat × CpInfo)) (last : Nat) : List CpInfo := es.foldr (fun e r => gap e.1 (e.2 :: r)) (gap last [])
def pool (es : List (Nat × CpInfo)) (last : Nat) : Array CpInfo := ⟨poolList es last⟩
def fileOf (pool : Array CpInfo) (this : Nat) (attrs : Array Attribute := #[]) (ms : Array MethodInfo := #[]) (fl : Nat := 33) (sup : Nat := 0) (ifs : Array Nat := #[]) (fds : Array FieldInfo := #[]) : ClassFile where
  minorVersion := 0
  majorVersion := 65
  constantPool := pool
  accessFlags := fl
  thisClass := this
  superClass := sup
  interfaces := ifs
  fields := fds
  methods := ms
  attributes := attrs
def plain (name : String) (sup : Option ClassId) : Class where
  name := name
  kind := .ordinary
  loader := none
  accessFlags := 33
  super := sup
  interfaces := #[]
  cf := none
  fields := #[]
  methods := #[]
  instanceTypes := #[]
  staticTypes := #[]
  resolved := #[]
  callSites := []
  init := .initialized
  statics := none
  mirror := none

def pool0 : Array CpInfo := pool [(5, u "<init>"), (0, u "()V"), (1, .class_ 10), (1, u "java/lang/Object")] 113

def k0c0 : Code := { maxStack := 0, maxLocals := 1, code := object_method_1_code, exceptionTable := #[], attributes := #[] }
def k0m0 : Method := { name := "<init>", desc := "()V", sig := { parameters := [], returnType := none }, accessFlags := 1, code := some k0c0 }
/-- java/lang/Object -/
def k0 : Class := { plain "java/lang/Object" none with
  accessFlags := 33
  interfaces := #[]
  cf := some (fileOf pool0 8 #[] #[{ accessFlags := 1, nameIndex := 5, descriptorIndex := 6, attributes := #[] }] 33 0 #[] #[])
  fields := #[]
  methods := #[k0m0]
  instanceTypes := #[]
  staticTypes := #[]
  resolved := Array.replicate 124 none
  statics := none }

def pool1 : Array CpInfo := pool [(2, .class_ 4), (1, u "java/lang/Object"), (0, u "<init>"), (0, u "()V"), (0, .class_ 8), (0, u "com/example/mullion/mullion/layout/Extent"), (0, .methodref 7 10), (0, .nameAndType 5 11), (0, u "(III)V"), (0, .methodref 13 14), (0, .class_ 15), (0, .nameAndType 16 17), (0, u "java/lang/Math"), (0, u "min"), (0, u "(II)I"), (0, .methodref 13 19), (0, .nameAndType 20 17), (0, u "max"), (0, .methodref 7 22), (0, .nameAndType 23 24), (0, u "resizable"), (0, u "()Z"), (0, .class_ 26), (0, u "com/example/mullion/mullion/layout/ExtentResizablePinLaw"), (2, u "law"), (0, u "(IIII)Z")] 3

def k1m0 : Method := { name := "<init>", desc := "()V", sig := { parameters := [], returnType := none }, accessFlags := 2, code := none }
def k1c1 : Code := { maxStack := 5, maxLocals := 11, code := code, exceptionTable := #[], attributes := #[] }
def k1m1 : Method := { name := "law", desc := "(IIII)Z", sig := { parameters := [.int, .int, .int, .int], returnType := some .boolean }, accessFlags := 9, code := some k1c1 }
/-- com/example/mullion/mullion/layout/ExtentResizablePinLaw -/
def k1 : Class := { plain "com/example/mullion/mullion/layout/ExtentResizablePinLaw" (some 0) with
  accessFlags := 49
  interfaces := #[]
  cf := some (fileOf pool1 25 #[] #[{ accessFlags := 2, nameIndex := 5, descriptorIndex := 6, attributes := #[] }, { accessFlags := 9, nameIndex := 29, descriptorIndex := 30, attributes := #[] }] 49 2 #[] #[])
  fields := #[]
  methods := #[k1m0, k1m1]
  instanceTypes := #[]
  staticTypes := #[]
  resolved := Array.replicate 34 none
  statics := none }

def pool2 : Array CpInfo := pool [(3, .methodref 4 5), (0, .class_ 6), (0, .nameAndType 7 8), (0, u "java/lang/Object"), (0, u "<init>"), (0, u "()V"), (0, .fieldref 10 11), (0, .class_ 12), (0, .nameAndType 13 14), (0, u "com/example/mullion/mullion/layout/Extent"), (0, u "minimum"), (0, u "I"), (0, .fieldref 10 16), (0, .nameAndType 17 14), (0, u "preferred"), (0, .fieldref 10 19), (0, .nameAndType 20 14), (0, u "maximum"), (2, u "(III)V"), (34, u "()Z"), (19, u "resizable"), (13, .class_ 93), (0, u "com/example/mullion/mullion/layout/Extent$Positions"), (0, .class_ 95), (0, u "com/example/mullion/mullion/layout/Extent$Neighbours"), (0, .class_ 97), (0, u "com/example/mullion/mullion/layout/Extent$Styled"), (0, .class_ 99), (0, u "com/example/mullion/mullion/layout/Extent$Baseline"), (0, .class_ 101), (0, u "com/example/mullion/mullion/layout/Extent$Parallel"), (0, .class_ 103), (0, u "com/example/mullion/mullion/layout/Extent$Room"), (0, .class_ 105), (0, u "com/example/mullion/mullion/layout/Extent$Sequence"), (0, .class_ 107), (0, u "com/example/mullion/mullion/layout/Extent$Leaf")] 9

def k2c0 : Code := { maxStack := 2, maxLocals := 4, code := prog_26_method_1_code, exceptionTable := #[], attributes := #[] }
def k2m0 : Method := { name := "<init>", desc := "(III)V", sig := { parameters := [.int, .int, .int], returnType := none }, accessFlags := 0, code := some k2c0 }
def k2c1 : Code := { maxStack := 2, maxLocals := 1, code := prog_26_method_5_code, exceptionTable := #[], attributes := #[] }
def k2m1 : Method := { name := "resizable", desc := "()Z", sig := { parameters := [], returnType := some .boolean }, accessFlags := 0, code := some k2c1 }
/-- com/example/mullion/mullion/layout/Extent -/
def k2 : Class := { plain "com/example/mullion/mullion/layout/Extent" (some 0) with
  accessFlags := 32
  interfaces := #[]
  cf := some (fileOf pool2 10 #[.nestMembers #[92, 94, 96, 98, 100, 102, 104, 106]] #[{ accessFlags := 0, nameIndex := 7, descriptorIndex := 23, attributes := #[] }, { accessFlags := 0, nameIndex := 78, descriptorIndex := 58, attributes := #[] }] 32 4 #[] #[{ accessFlags := 16, nameIndex := 13, descriptorIndex := 14, attributes := #[] }, { accessFlags := 16, nameIndex := 17, descriptorIndex := 14, attributes := #[] }, { accessFlags := 16, nameIndex := 20, descriptorIndex := 14, attributes := #[] }])
  fields := #[{ name := "minimum", type := .int, accessFlags := 16, slot := 0, constantValue := 0 }, { name := "preferred", type := .int, accessFlags := 16, slot := 1, constantValue := 0 }, { name := "maximum", type := .int, accessFlags := 16, slot := 2, constantValue := 0 }]
  methods := #[k2m0, k2m1]
  instanceTypes := #[.int, .int, .int]
  staticTypes := #[]
  resolved := Array.replicate 117 none
  statics := none }

def pool3 : Array CpInfo := pool [(1, .class_ 2), (0, u "java/lang/Math"), (1, .class_ 6), (1, u "java/lang/Object"), (0, u "<init>"), (0, u "()V"), (89, .class_ 100), (1, u "java/lang/Math$RandomNumberGeneratorHolder"), (71, u "negativeZeroFloatBits"), (0, u "J"), (2, u "negativeZeroDoubleBits"), (21, u "max"), (2, u "min"), (43, u "$assertionsDisabled"), (0, u "Z"), (88, u "(II)I"), (2, u "twoToTheDoubleScaleDown"), (0, u "D"), (4, u "twoToTheDoubleScaleUp"), (9, u "E"), (3, u "PI"), (2, u "TAU"), (2, u "DEGREES_TO_RADIANS"), (0, u "RADIANS_TO_DEGREES")] 94

def k3m0 : Method := { name := "<init>", desc := "()V", sig := { parameters := [], returnType := none }, accessFlags := 2, code := none }
def k3c1 : Code := { maxStack := 2, maxLocals := 2, code := jdk_29_method_65_code, exceptionTable := #[], attributes := #[] }
def k3m1 : Method := { name := "max", desc := "(II)I", sig := { parameters := [.int, .int], returnType := some .int }, accessFlags := 9, code := some k3c1 }
def k3c2 : Code := { maxStack := 2, maxLocals := 2, code := jdk_29_method_69_code, exceptionTable := #[], attributes := #[] }
def k3m2 : Method := { name := "min", desc := "(II)I", sig := { parameters := [.int, .int], returnType := some .int }, accessFlags := 9, code := some k3c2 }
/-- java/lang/Math -/
def k3 : Class := { plain "java/lang/Math" (some 0) with
  accessFlags := 49
  interfaces := #[]
  cf := some (fileOf pool3 1 #[.nestMembers #[98]] #[{ accessFlags := 2, nameIndex := 7, descriptorIndex := 8, attributes := #[] }, { accessFlags := 9, nameIndex := 198, descriptorIndex := 335, attributes := #[] }, { accessFlags := 9, nameIndex := 201, descriptorIndex := 335, attributes := #[] }] 49 4 #[] #[{ accessFlags := 25, nameIndex := 354, descriptorIndex := 339, attributes := #[] }, { accessFlags := 25, nameIndex := 358, descriptorIndex := 339, attributes := #[] }, { accessFlags := 25, nameIndex := 361, descriptorIndex := 339, attributes := #[] }, { accessFlags := 26, nameIndex := 364, descriptorIndex := 339, attributes := #[] }, { accessFlags := 26, nameIndex := 365, descriptorIndex := 339, attributes := #[] }, { accessFlags := 26, nameIndex := 172, descriptorIndex := 173, attributes := #[] }, { accessFlags := 26, nameIndex := 176, descriptorIndex := 173, attributes := #[] }, { accessFlags := 8, nameIndex := 344, descriptorIndex := 339, attributes := #[] }, { accessFlags := 8, nameIndex := 338, descriptorIndex := 339, attributes := #[] }, { accessFlags := 4120, nameIndex := 245, descriptorIndex := 246, attributes := #[] }])
  fields := #[{ name := "E", type := .double, accessFlags := 25, slot := 0, constantValue := 0 }, { name := "PI", type := .double, accessFlags := 25, slot := 1, constantValue := 0 }, { name := "TAU", type := .double, accessFlags := 25, slot := 2, constantValue := 0 }, { name := "DEGREES_TO_RADIANS", type := .double, accessFlags := 26, slot := 3, constantValue := 0 }, { name := "RADIANS_TO_DEGREES", type := .double, accessFlags := 26, slot := 4, constantValue := 0 }, { name := "negativeZeroFloatBits", type := .long, accessFlags := 26, slot := 5, constantValue := 0 }, { name := "negativeZeroDoubleBits", type := .long, accessFlags := 26, slot := 6, constantValue := 0 }, { name := "twoToTheDoubleScaleUp", type := .double, accessFlags := 8, slot := 7, constantValue := 0 }, { name := "twoToTheDoubleScaleDown", type := .double, accessFlags := 8, slot := 8, constantValue := 0 }, { name := "$assertionsDisabled", type := .boolean, accessFlags := 4120, slot := 9, constantValue := 0 }]
  methods := #[k3m0, k3m1, k3m2]
  instanceTypes := #[]
  staticTypes := #[.double, .double, .double, .double, .double, .long, .long, .double, .double, .boolean]
  resolved := Array.replicate 460 none
  statics := none }

def pool4 : Array CpInfo := pool [(1, u "java/lang/Cloneable"), (0, .class_ 1), (0, u "java/lang/Object"), (0, .class_ 3)] 3

/-- java/lang/Cloneable -/
def k4 : Class := { plain "java/lang/Cloneable" (some 0) with
  accessFlags := 1537
  interfaces := #[]
  cf := some (fileOf pool4 2 #[] #[] 1537 4 #[] #[])
  fields := #[]
  methods := #[]
  instanceTypes := #[]
  staticTypes := #[]
  resolved := Array.replicate 8 none
  statics := none }

def pool5 : Array CpInfo := pool [(1, u "java/io/Serializable"), (0, .class_ 1), (0, u "java/lang/Object"), (0, .class_ 3)] 3

/-- java/io/Serializable -/
def k5 : Class := { plain "java/io/Serializable" (some 0) with
  accessFlags := 1537
  interfaces := #[]
  cf := some (fileOf pool5 2 #[] #[] 1537 4 #[] #[])
  fields := #[]
  methods := #[]
  instanceTypes := #[]
  staticTypes := #[]
  resolved := Array.replicate 8 none
  statics := none }

/-- the primitive byte -/
def k6 : Class := { plain "byte" none with kind := .primitive 'B', accessFlags := 0x411 }
/-- [B -/
def k7 : Class := { plain "[B" (some 0) with kind := .array 6 .byte, interfaces := #[4, 5], accessFlags := 1041 }

/-- the primitive int -/
def k8 : Class := { plain "int" none with kind := .primitive 'I', accessFlags := 0x411 }
/-- [I -/
def k9 : Class := { plain "[I" (some 0) with kind := .array 8 .int, interfaces := #[4, 5], accessFlags := 1041 }

def heap : Heap := #[]
def classes : Array Class := #[k0, k1, k2, k3, k4, k5, k6, k7, k8, k9]
def interned : List (Array UInt16 × Addr) := []
def slotsUsed : Nat := 0
def theMethod : MethodId := ⟨1, 1⟩
def args0 : Array Value := #[.int 5, .int 7, .int 9, .int 2]
def aboutOver (below : List Frame) : State where
  vm := { classes := classes, interned := interned.toArray }
  heap := heap
  slotsUsed := slotsUsed
  threads := #[{ frames := .invoking theMethod args0 :: below }]
def below0 : List Frame := [.native { method := ⟨0, 0⟩, args := #[] }]
def about1 : State := aboutOver below0
def p0 : Program := .bare "" "" ""
def e0 : Env := launch0.env 0 0 0
theorem w_frames : about1.frames = Frame.invoking theMethod args0 :: below0 := rfl
set_option maxRecDepth 65536 in
theorem w_args : argsFit about1.vm theMethod args0 = true := by decide +kernel
set_option maxRecDepth 65536 in
theorem w_heap : heapFits about1 = true := by decide +kernel
set_option maxRecDepth 65536 in
theorem w_runnable : about1.curStatus? = some .runnable := by decide +kernel
set_option maxRecDepth 65536 in
theorem w_alone : about1.alone = true := by decide +kernel
set_option maxRecDepth 65536 in
theorem w_named : about1.methodNamed? x = some theMethod := by decide +kernel
set_option maxRecDepth 65536 in
theorem w_hears : about1.hears theMethod below0 = true := by decide +kernel
set_option maxRecDepth 65536 in
theorem w_ripe : about1.ripe theMethod args0 below0 = true := by decide +kernel
theorem w_running : about1.status = .running := rfl
set_option maxRecDepth 65536 in
theorem w_room : about1.hasRoom e0.platform room_1 = true :=
  launch0.hasRoom_least _ room_1 (by decide +kernel) (by decide +kernel) (by decide +kernel) (by decide +kernel) (by decide +kernel) (by decide +kernel)
theorem allAtoms_all (ts : List Jvm.Cond) (a : Array Jvm.Value) (st : Jvm.State) : (allAtoms ts).before a st = ts.all (fun c => c.before a st) := by
  induction ts with
  | nil => rfl
  | cons c t ih =>
    show (Jvm.Cond.and c (allAtoms t)).before a st = _
    rw [Jvm.Cond.before_and, ih, List.all_cons]
def words1 : List Jvm.Cond := Jvm.Cond.code x code maxLocals ret :: tables_1
/-- a 'code' word, met by the world's own term for the bytes: nothing is compared byte by byte -/
theorem code_word {y : MethodName} {bytes : ByteArray} {mx : Nat} {rt : Option FieldType} {a : Array Value} {s : State} {m : MethodId} {meth : Method} {c : Code} (h1 : s.methodNamed? y = some m) (h2 : s.vm.method? m = some meth) (h3 : meth.code = some c) (h4 : c.code = bytes)
    (h5 : (c.maxLocals == mx && c.exceptionTable.isEmpty && decide (c.maxStack ≤ mostOperands) && decide (meth.sig.returnType = rt) && !meth.locks && decide (parseMethodDescriptor y.desc = some meth.sig)) = true) : (Jvm.Cond.code y bytes mx rt).before a s = true := by
  simp only [Bool.and_eq_true, beq_iff_eq, Bool.not_eq_true', decide_eq_true_eq] at h5
  obtain ⟨⟨⟨⟨⟨g1, g2⟩, g3⟩, g4⟩, g5⟩, g6⟩ := h5
  simp [Cond.before, Cond.holds, Cond.value, h1, h2, h3, h4, g1, g2, g3, g4, g5, g6]
def isCode : Jvm.Cond → Bool
  | .code _ _ _ _ => true
  | _ => false
theorem all_split {L : List Jvm.Cond} {P : Jvm.Cond → Bool} (h1 : L.all (fun c => isCode c || P c) = true) (h2 : ∀ c ∈ L.filter isCode, P c = true) : L.all P = true := by
  refine List.all_eq_true.mpr fun c hc => ?_
  have h := List.all_eq_true.mp h1 c hc
  rcases Bool.eq_false_or_eq_true (isCode c) with hi | hi
  · exact h2 c (List.mem_filter.mpr ⟨hc, hi⟩)
  · simpa [hi] using h
set_option maxRecDepth 65536 in
theorem w_c0 : (Jvm.Cond.code x code maxLocals ret).before args0 about1 = true := code_word (m := ⟨1, 1⟩) (meth := k1m1) (c := k1c1) (by decide +kernel) rfl rfl rfl (by decide +kernel)
set_option maxRecDepth 65536 in
theorem w_c1 : (Jvm.Cond.code ({ cls := "com/example/mullion/mullion/layout/Extent", name := "<init>", desc := "(III)V" } : Jvm.MethodName) prog_26_method_1_code (4 : Nat) (Option.none : Option Jvm.ClassFile.FieldType)).before args0 about1 = true := code_word (m := ⟨2, 0⟩) (meth := k2m0) (c := k2c0) (by decide +kernel) rfl rfl rfl (by decide +kernel)
set_option maxRecDepth 65536 in
theorem w_c2 : (Jvm.Cond.code ({ cls := "java/lang/Object", name := "<init>", desc := "()V" } : Jvm.MethodName) object_method_1_code (1 : Nat) (Option.none : Option Jvm.ClassFile.FieldType)).before args0 about1 = true := code_word (m := ⟨0, 0⟩) (meth := k0m0) (c := k0c0) (by decide +kernel) rfl rfl rfl (by decide +kernel)
set_option maxRecDepth 65536 in
theorem w_c3 : (Jvm.Cond.code ({ cls := "java/lang/Math", name := "min", desc := "(II)I" } : Jvm.MethodName) jdk_29_method_69_code (2 : Nat) (Option.some Jvm.ClassFile.FieldType.int)).before args0 about1 = true := code_word (m := ⟨3, 2⟩) (meth := k3m2) (c := k3c2) (by decide +kernel) rfl rfl rfl (by decide +kernel)
set_option maxRecDepth 65536 in
theorem w_c4 : (Jvm.Cond.code ({ cls := "java/lang/Math", name := "max", desc := "(II)I" } : Jvm.MethodName) jdk_29_method_65_code (2 : Nat) (Option.some Jvm.ClassFile.FieldType.int)).before args0 about1 = true := code_word (m := ⟨3, 1⟩) (meth := k3m1) (c := k3c1) (by decide +kernel) rfl rfl rfl (by decide +kernel)
set_option maxRecDepth 65536 in
theorem w_c5 : (Jvm.Cond.code ({ cls := "com/example/mullion/mullion/layout/Extent", name := "resizable", desc := "()Z" } : Jvm.MethodName) prog_26_method_5_code (1 : Nat) (Option.some Jvm.ClassFile.FieldType.boolean)).before args0 about1 = true := code_word (m := ⟨2, 1⟩) (meth := k2m1) (c := k2c1) (by decide +kernel) rfl rfl rfl (by decide +kernel)
def codes1 : List Jvm.Cond := [Jvm.Cond.code x code maxLocals ret, Jvm.Cond.code ({ cls := "com/example/mullion/mullion/layout/Extent", name := "<init>", desc := "(III)V" } : Jvm.MethodName) prog_26_method_1_code (4 : Nat) (Option.none : Option Jvm.ClassFile.FieldType), Jvm.Cond.code ({ cls := "java/lang/Object", name := "<init>", desc := "()V" } : Jvm.MethodName) object_method_1_code (1 : Nat) (Option.none : Option Jvm.ClassFile.FieldType), Jvm.Cond.code ({ cls := "java/lang/Math", name := "min", desc := "(II)I" } : Jvm.MethodName) jdk_29_method_69_code (2 : Nat) (Option.some Jvm.ClassFile.FieldType.int), Jvm.Cond.code ({ cls := "java/lang/Math", name := "max", desc := "(II)I" } : Jvm.MethodName) jdk_29_method_65_code (2 : Nat) (Option.some Jvm.ClassFile.FieldType.int), Jvm.Cond.code ({ cls := "com/example/mullion/mullion/layout/Extent", name := "resizable", desc := "()Z" } : Jvm.MethodName) prog_26_method_5_code (1 : Nat) (Option.some Jvm.ClassFile.FieldType.boolean)]
set_option maxRecDepth 65536 in
theorem codes_eq : words1.filter isCode = codes1 := rfl
theorem w_codes : ∀ c ∈ words1.filter isCode, c.before args0 about1 = true := by
  rw [codes_eq]
  intro c hc
  simp only [codes1, List.mem_cons, List.not_mem_nil, or_false] at hc
  rcases hc with rfl | rfl | rfl | rfl | rfl | rfl
  · exact w_c0
  · exact w_c1
  · exact w_c2
  · exact w_c3
  · exact w_c4
  · exact w_c5
set_option maxRecDepth 65536 in
theorem w_t1 : (words1.take 24).all (fun c => isCode c || c.before args0 about1) = true := by decide +kernel
set_option maxRecDepth 65536 in
theorem w_t2 : (words1.drop 24).all (fun c => isCode c || c.before args0 about1) = true := by decide +kernel
theorem w_tables : (allAtoms (Jvm.Cond.code x code maxLocals ret :: tables_1)).before args0 about1 = true := by
  rw [allAtoms_all]
  show words1.all (fun c => c.before args0 about1) = true
  refine all_split ?_ w_codes
  rw [← List.take_append_drop 24 words1, List.all_append, w_t1, w_t2]
  rfl
set_option maxRecDepth 65536 in
theorem w_case : (Jvm.Cond.and given_1 narrow_1).before args0 about1 = true := by decide +kernel
theorem w_applies : (headSpec (Jvm.Cond.code x code maxLocals ret :: tables_1) room_1).applies x e0.platform about1 = true :=
  (Spec.applies_iff w_frames).mpr ⟨w_running, w_runnable, w_alone, w_named, w_hears, w_ripe, w_room, w_tables⟩
theorem atStart : AtStart classFile x code maxLocals ret World_1 tables_1 room_1 Calls_1 rest_1 Pre_1 launch0 p0 e0 about1 theMethod args0 below0 :=
  ⟨lists_1, trivial, launch0.admits_env _ _ _, launch0.least_env, fairChoices_fair.cas, fairChoices_fair.clock, w_frames, w_args, w_heap, w_applies, trivial, trivial, w_case⟩
end start1
theorem witness_1 : WitnessClaimed_1 := ⟨start1.p0, start1.e0, start1.about1, start1.theMethod, start1.args0, start1.below0, start1.atStart⟩
end Jvm.Pilot.@@N@@
