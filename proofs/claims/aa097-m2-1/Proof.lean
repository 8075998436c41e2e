import JvmDerived
import JvmDerived.Pilot.@@N@@Statement
import JvmDerived.Pilot.@@N@@Code
set_option linter.unusedVariables false
set_option linter.unusedSimpArgs false
namespace Jvm.Pilot.@@N@@
open Jvm Jvm.ClassFile Sem Op Lib Jvm.Free Jvm.Stand Jvm.LawKit Jvm.RoadKit Bundle Jvm.Pilot.@@N@@.Jvm.D
theorem own_go {tb : Tables} {e : Env} {below : List Frame} {A B : State} {P : State → Outcome → Prop} (h : ∀ t, Steps tb e below B t → Steps tb e below A t) (k : ∃ s₂ o, Steps tb e below B s₂ ∧ P s₂ o) : ∃ s₂ o, Steps tb e below A s₂ ∧ P s₂ o := by
  obtain ⟨s₂, o, h1, h2⟩ := k; exact ⟨s₂, o, h _ h1, h2⟩
theorem d3_0 : decode jdk_30_method_1_code 0 = .ok (.aload_n 0, 1) := by decide +kernel
theorem d3_1 : decode jdk_30_method_1_code 1 = .ok (.invokespecial 1, 3) := by decide +kernel
theorem d3_4 : decode jdk_30_method_1_code 4 = .ok (.return_, 1) := by decide +kernel
theorem pn_0 : plainName "java/lang/Record" = true := by first | (simp [plainName, overriddenIn]; done) | decide +kernel
theorem d2_0 : decode prog_13_method_1_code 0 = .ok (.aload_n 0, 1) := by decide +kernel
theorem d2_1 : decode prog_13_method_1_code 1 = .ok (.invokespecial 1, 3) := by decide +kernel
theorem pd_0 : parseMethodDescriptor "()V" = some ⟨[], none⟩ := by decide +kernel
theorem d2_4 : decode prog_13_method_1_code 4 = .ok (.aload_n 0, 1) := by decide +kernel
theorem d2_5 : decode prog_13_method_1_code 5 = .ok (.lload_n 1, 1) := by decide +kernel
theorem d2_6 : decode prog_13_method_1_code 6 = .ok (.putfield 7, 3) := by decide +kernel
theorem d2_9 : decode prog_13_method_1_code 9 = .ok (.aload_n 0, 1) := by decide +kernel
theorem d2_10 : decode prog_13_method_1_code 10 = .ok (.lload_n 3, 1) := by decide +kernel
theorem d2_11 : decode prog_13_method_1_code 11 = .ok (.putfield 13, 3) := by decide +kernel
theorem d2_14 : decode prog_13_method_1_code 14 = .ok (.return_, 1) := by decide +kernel
theorem pn_1 : plainName "com/example/cicada/cicada/store/DueTime" = true := by first | (simp [plainName, overriddenIn]; done) | decide +kernel
theorem d1_0 : decode prog_13_method_2_code 0 = .ok (.new 8, 3) := by decide +kernel
theorem d1_3 : decode prog_13_method_2_code 3 = .ok (.dup, 1) := by decide +kernel
theorem d1_4 : decode prog_13_method_2_code 4 = .ok (.lload_n 0, 1) := by decide +kernel
theorem d1_5 : decode prog_13_method_2_code 5 = .ok (.ldc2_w 18, 3) := by decide +kernel
theorem d1_8 : decode prog_13_method_2_code 8 = .ok (.invokespecial 20, 3) := by decide +kernel
theorem pd_1 : parseMethodDescriptor "(JJ)V" = some ⟨[.long, .long], none⟩ := by decide +kernel
theorem d1_11 : decode prog_13_method_2_code 11 = .ok (.areturn, 1) := by decide +kernel
theorem d5_0 : decode prog_13_method_8_code 0 = .ok (.aload_n 0, 1) := by decide +kernel
theorem d5_1 : decode prog_13_method_8_code 1 = .ok (.getfield 7, 3) := by decide +kernel
theorem d5_4 : decode prog_13_method_8_code 4 = .ok (.lreturn, 1) := by decide +kernel
theorem d6_0 : decode prog_13_method_9_code 0 = .ok (.aload_n 0, 1) := by decide +kernel
theorem d6_1 : decode prog_13_method_9_code 1 = .ok (.getfield 13, 3) := by decide +kernel
theorem d6_4 : decode prog_13_method_9_code 4 = .ok (.lreturn, 1) := by decide +kernel
theorem d8_0 : decode jdk_29_method_66_code 0 = .ok (.lload_n 0, 1) := by decide +kernel
theorem d8_1 : decode jdk_29_method_66_code 1 = .ok (.lload_n 2, 1) := by decide +kernel
theorem d8_2 : decode jdk_29_method_66_code 2 = .ok (.lcmp, 1) := by decide +kernel
theorem d8_3 : decode jdk_29_method_66_code 3 = .ok (.ifCond .lt 7, 3) := by decide +kernel
theorem d8_10 : decode jdk_29_method_66_code 10 = .ok (.lload_n 2, 1) := by decide +kernel
theorem d8_11 : decode jdk_29_method_66_code 11 = .ok (.lreturn, 1) := by decide +kernel
theorem d8_6 : decode jdk_29_method_66_code 6 = .ok (.lload_n 0, 1) := by decide +kernel
theorem d8_7 : decode jdk_29_method_66_code 7 = .ok (.goto 4, 3) := by decide +kernel
theorem d7_0 : decode prog_13_method_4_code 0 = .ok (.lload_n 1, 1) := by decide +kernel
theorem d7_1 : decode prog_13_method_4_code 1 = .ok (.aload_n 0, 1) := by decide +kernel
theorem d7_2 : decode prog_13_method_4_code 2 = .ok (.getfield 7, 3) := by decide +kernel
theorem d7_5 : decode prog_13_method_4_code 5 = .ok (.ladd, 1) := by decide +kernel
theorem d7_6 : decode prog_13_method_4_code 6 = .ok (.aload_n 0, 1) := by decide +kernel
theorem d7_7 : decode prog_13_method_4_code 7 = .ok (.getfield 13, 3) := by decide +kernel
theorem d7_10 : decode prog_13_method_4_code 10 = .ok (.invokestatic 23, 3) := by decide +kernel
theorem pd_2 : parseMethodDescriptor "(JJ)J" = some ⟨[.long, .long], some .long⟩ := by decide +kernel
theorem d7_13 : decode prog_13_method_4_code 13 = .ok (.lreturn, 1) := by decide +kernel
theorem pd_3 : parseMethodDescriptor "(J)Lcom/example/cicada/cicada/store/DueTime;" = some ⟨[.long], some (.object "com/example/cicada/cicada/store/DueTime")⟩ := by decide +kernel
theorem pd_4 : parseMethodDescriptor "()J" = some ⟨[], some .long⟩ := by decide +kernel
theorem pd_5 : parseMethodDescriptor "(J)J" = some ⟨[.long], some .long⟩ := by decide +kernel
theorem pn_2 : plainName "com/example/cicada/cicada/store/DueTimeAfterPinLaw" = true := by first | (simp [plainName, overriddenIn]; done) | decide +kernel
def Qrm3 (Z : State) (a1 : Addr) (h0 : Heap) (n0 : Nat) (v : Option Value) (h : Heap) (L : List Loc) : Prop := v = none ∧ Fr n0 L ∧ h = h0
theorem efrm3 (m : MethodId) (x0 : Addr) : entryFrame m #[(.ref x0)] 1 = mkF m 0 #[.val (.ref x0)] [] := by first | (simp [entryFrame, mkF, argsToLocals, Value.category]; done) | rfl
set_option maxRecDepth 65536 in
set_option maxHeartbeats 40000000 in
theorem rm3 (l : Launch) (Z : State) (a0 : Array Value) (hw : ∀ d ∈ tables_1, d.before a0 Z = true) (ws : List Jvm.Cond) (a1 : Addr) (h0 : Heap) (n0 : Nat) (Z0 : n0 ≤ h0.size)  :
    MetFree l (⟨"java/lang/Record", "<init>", "()V"⟩ : MethodName) (head1 (Jvm.Cond.code (⟨"java/lang/Record", "<init>", "()V"⟩ : MethodName) jdk_30_method_1_code 1 none :: ws) ({ frames := 1, cells := 0, slots := 0, locals := 12 } : Room)) (fun a U => a = #[(.ref a1)] ∧ Z.Warmed39 U.vm ∧ U.heap = h0) (fun _ _ _ _ _ => True) (fun _ U o U' => ∃ v L, o = .returned v ∧ Qrm3 Z a1 h0 n0 v U'.heap L ∧ FrameEnd U o U' L ({ frames := 1, cells := 0, slots := 0, locals := 12 } : Room).cells ({ frames := 1, cells := 0, slots := 0, locals := 12 } : Room).slots) := by
  refine MetFree.of_bodySF (plainFor_of_name pn_0) hisR ?_
  intro p e s m args below meth c s₁ Bd hml0 hP hK
  obtain ⟨rfl, hZ, hh⟩ := hP
  have hx := Bd.exec
  have hby := Bd.bytes
  have hml : c.maxLocals = 1 := hml0
  have hown : s.vm.findClass "java/lang/Record" = some m.cls := findClass_of_methodNamed Bd.named
  have hnm := (name_of_methodNamed Bd.named Bd.method).1
  have X0 : Stand p l e ({ frames := 1, cells := 0, slots := 0, locals := 12 } : Room) s m #[(.ref a1)] below meth c s₁ [] 0 0 := Stand.of_body Bd
  have e0 : s₁.heap = h0 := by rw [← hh, Bd.state]; rfl
  have N0 := Fr.nil n0
  have K0 : Keep h0 h0 [] := Keep.refl h0 _
  refine own_go (B := s₁.setTop (mkF m 0 #[.val (.ref a1)] [])) (fun t k => castTop (efrm3 m a1) k) ?_
  refine own_go (A := s₁.setTop (mkF m 0 #[.val (.ref a1)] [])) (B := s₁.setTop (mkF m 1 #[.val (.ref a1)] [(.ref a1)])) (fun t k => ?_) ?_
  · show Steps p.tables e below (s₁.setTop (mkF m 0 #[.val (.ref a1)] [])) _
    refine XS.aloadN X0.here hx rfl (hb hby d3_0) rfl rfl ?_
    exact k
  obtain ⟨T1, X1, e1, st1⟩ := initO X0 hx hZ hown (hw _ (List.mem_of_getElem? (i := 16) rfl)) (hw _ (List.mem_of_getElem? (i := 17) rfl)) (hw _ (List.mem_of_getElem? (i := 18) rfl)) e0 (g := (mkF m 1 #[.val (.ref a1)] [(.ref a1)])) rfl (by rw [hml]; rfl) rfl (hb hby d3_1) (by decide) (W := 0) (by show 2 * 0 + _ ≤ _; exact Nat.le_of_eq rfl) (by decide)
  refine own_go st1 ?_
  obtain ⟨fs, hr, hrun, hended, hW, hsame⟩ := X1.leave (v := none) (fun _ => rfl)
  refine ⟨_, _, ?_, hrun, hended, _, _, rfl, ?_, ⟨_, rfl⟩, hW, hsame.mono (by decide) (by decide)⟩
  · show Steps p.tables e below (T1.setTop (mkF m 4 #[.val (.ref a1)] [])) _
    exact X1.returnOut hx Bd.returns (hb hby d3_4) hr
  · show Qrm3 Z a1 h0 n0 _ T1.heap _
    rw [e1]
    exact ⟨rfl, N0, rfl⟩
def Qrm2 (Z : State) (a1 : Addr) (q2 : Int64) (q3 : Int64) (u1 : Int64) (u2 : Int64) (h0 : Heap) (n0 : Nat) (v : Option Value) (h : Heap) (L : List Loc) : Prop := v = none ∧ Fr n0 L ∧ Keep h0 h [a1] ∧ Fld Z h a1 "com/example/cicada/cicada/store/DueTime" "delayMs" "J" (.long q2) ∧ Fld Z h a1 "com/example/cicada/cicada/store/DueTime" "notBefore" "J" (.long q3)
theorem efrm2 (m : MethodId) (x0 : Addr) (x1 : Int64) (x2 : Int64) : entryFrame m #[(.ref x0), (.long x1), (.long x2)] 5 = mkF m 0 #[.val (.ref x0), .val (.long x1), .second, .val (.long x2), .second] [] := by first | (simp [entryFrame, mkF, argsToLocals, Value.category]; done) | rfl
set_option maxRecDepth 65536 in
set_option maxHeartbeats 40000000 in
theorem rm2 (l : Launch) (Z : State) (a0 : Array Value) (hw : ∀ d ∈ tables_1, d.before a0 Z = true) (ws : List Jvm.Cond) (a1 : Addr) (q2 : Int64) (q3 : Int64) (u1 : Int64) (u2 : Int64) (h0 : Heap) (n0 : Nat) (Z0 : n0 ≤ h0.size) (P0 : Exa Z h0 a1 "com/example/cicada/cicada/store/DueTime") (P1 : Fld Z h0 a1 "com/example/cicada/cicada/store/DueTime" "delayMs" "J" (.long u1)) (P2 : Fld Z h0 a1 "com/example/cicada/cicada/store/DueTime" "notBefore" "J" (.long u2)) (g_a1 : n0 ≤ a1) :
    MetFree l (⟨"com/example/cicada/cicada/store/DueTime", "<init>", "(JJ)V"⟩ : MethodName) (head1 (Jvm.Cond.code (⟨"com/example/cicada/cicada/store/DueTime", "<init>", "(JJ)V"⟩ : MethodName) prog_13_method_1_code 5 none :: ws) ({ frames := 2, cells := 0, slots := 0, locals := 24 } : Room)) (fun a U => a = #[(.ref a1), (.long q2), (.long q3)] ∧ Z.Warmed39 U.vm ∧ U.heap = h0) (fun _ _ _ _ _ => True) (fun _ U o U' => ∃ v L, o = .returned v ∧ Qrm2 Z a1 q2 q3 u1 u2 h0 n0 v U'.heap L ∧ FrameEnd U o U' L ({ frames := 2, cells := 0, slots := 0, locals := 24 } : Room).cells ({ frames := 2, cells := 0, slots := 0, locals := 24 } : Room).slots) := by
  refine MetFree.of_bodySF (plainFor_of_name pn_1) hisR ?_
  intro p e s m args below meth c s₁ Bd hml0 hP hK
  obtain ⟨rfl, hZ, hh⟩ := hP
  have hx := Bd.exec
  have hby := Bd.bytes
  have hml : c.maxLocals = 5 := hml0
  have hown : s.vm.findClass "com/example/cicada/cicada/store/DueTime" = some m.cls := findClass_of_methodNamed Bd.named
  have hnm := (name_of_methodNamed Bd.named Bd.method).1
  have X0 : Stand p l e ({ frames := 2, cells := 0, slots := 0, locals := 24 } : Room) s m #[(.ref a1), (.long q2), (.long q3)] below meth c s₁ [] 0 0 := Stand.of_body Bd
  have e0 : s₁.heap = h0 := by rw [← hh, Bd.state]; rfl
  have N0 := Fr.nil n0
  have K0 : Keep h0 h0 [a1] := Keep.refl h0 _
  refine own_go (B := s₁.setTop (mkF m 0 #[.val (.ref a1), .val (.long q2), .second, .val (.long q3), .second] [])) (fun t k => castTop (efrm2 m a1 q2 q3) k) ?_
  refine own_go (A := s₁.setTop (mkF m 0 #[.val (.ref a1), .val (.long q2), .second, .val (.long q3), .second] [])) (B := s₁.setTop (mkF m 1 #[.val (.ref a1), .val (.long q2), .second, .val (.long q3), .second] [(.ref a1)])) (fun t k => ?_) ?_
  · show Steps p.tables e below (s₁.setTop (mkF m 0 #[.val (.ref a1), .val (.long q2), .second, .val (.long q3), .second] [])) _
    refine XS.aloadN X0.here hx rfl (hb hby d2_0) rfl rfl ?_
    exact k
  obtain ⟨_, _, ⟨T2, L2, k2, n2⟩, -, X2, ⟨Lc2, hQ2, l2, y2, z2⟩, st2⟩ := X0.specialBack hx (y := (⟨"java/lang/Record", "<init>", "()V"⟩ : MethodName)) rfl hown (mvT hZ (hw _ (List.mem_of_getElem? (i := 11) rfl))) (mvT hZ (hw _ (List.mem_of_getElem? (i := 12) rfl))) (mvT hZ (hw _ (List.mem_of_getElem? (i := 15) rfl))) (by decide) (backOf (W := 0) (rm3 l Z a0 hw [] a1 h0 n0 Z0 ) hZ (hw _ (List.mem_of_getElem? (i := 15) rfl)) (hw _ (List.mem_of_getElem? (i := 14) rfl)) (by decide) (by decide)) (g := (mkF m 1 #[.val (.ref a1), .val (.long q2), .second, .val (.long q3), .second] [(.ref a1)])) rfl (by rw [hml]; rfl) (Steps.refl _) (a := a1) (argsL := []) (rest := []) (lenOf pd_0 rfl) rfl (by show 2 * 0 + _ ≤ _; exact Nat.le_of_eq rfl) (hb hby d2_1) (fun _ _ => ⟨rfl, e0, (by decide : 0 + 0 ≤ _), (by decide : 0 + 0 ≤ _)⟩)
  dsimp only [Pt.U, Pt.locs, Pt.cells, Pt.slots] at X2 l2 y2 z2 st2 hQ2
  subst l2 y2 z2
  obtain ⟨rfl, Nq2, e2⟩ := hQ2
  have N2 := Fr.app N0 Nq2
  refine own_go (A := _) (B := T2.setTop (mkF m 4 #[.val (.ref a1), .val (.long q2), .second, .val (.long q3), .second] [])) (fun t k => st2.trans k) ?_
  refine own_go (A := T2.setTop (mkF m 4 #[.val (.ref a1), .val (.long q2), .second, .val (.long q3), .second] [])) (B := T2.setTop (mkF m 6 #[.val (.ref a1), .val (.long q2), .second, .val (.long q3), .second] [(.long q2), (.ref a1)])) (fun t k => ?_) ?_
  · show Steps p.tables e below (T2.setTop (mkF m 4 #[.val (.ref a1), .val (.long q2), .second, .val (.long q3), .second] [])) _
    refine XS.aloadN X2.here hx rfl (hb hby d2_4) rfl rfl ?_
    show Steps p.tables e below (T2.setTop (mkF m 5 #[.val (.ref a1), .val (.long q2), .second, .val (.long q3), .second] [(.ref a1)])) _
    refine XS.lloadN X2.here hx rfl (hb hby d2_5) rfl ?_
    exact k
  obtain ⟨T3, h3, X3, e3, W3, st3⟩ := putF X2 hx hZ hown (host := "") (Or.inl (hw _ (List.mem_of_getElem? (i := 19) rfl))) Via.refl e2 P1 P0 (Or.inr ⟨(hw _ (List.mem_of_getElem? (i := 20) rfl)), rfl, hnm⟩) (hw _ (List.mem_of_getElem? (i := 6) rfl)) (ty := .long) (by decide) rfl rfl (g := (mkF m 6 #[.val (.ref a1), .val (.long q2), .second, .val (.long q3), .second] [(.long q2), (.ref a1)])) rfl rfl (hb hby d2_6)
  have Q4 : Exa Z h3 a1 "com/example/cicada/cicada/store/DueTime" := P0.wr W3
  have Q5 : Fld Z h3 a1 "com/example/cicada/cicada/store/DueTime" "notBefore" "J" (.long u2) := P2.other W3 (Or.inr (slot_ne (Or.inr (hw _ (List.mem_of_getElem? (i := 22) rfl))) (Or.inr (hw _ (List.mem_of_getElem? (i := 20) rfl))) (by decide) (t := .long) (t' := .long) (by decide) (by decide)))
  have U3 : Fld Z h3 a1 "com/example/cicada/cicada/store/DueTime" "delayMs" "J" (.long q2) := P1.same W3
  have Z3 : n0 ≤ h3.size := Nat.le_trans Z0 (Keep.of_wr W3).1
  have N3 := Fr.snoc X3 N2 g_a1
  have K3 := K0.wr W3 (Or.inl (List.mem_of_getElem? (i := 0) rfl))
  refine own_go st3 ?_
  refine own_go (A := T3.setTop (mkF m 9 #[.val (.ref a1), .val (.long q2), .second, .val (.long q3), .second] [])) (B := T3.setTop (mkF m 11 #[.val (.ref a1), .val (.long q2), .second, .val (.long q3), .second] [(.long q3), (.ref a1)])) (fun t k => ?_) ?_
  · show Steps p.tables e below (T3.setTop (mkF m 9 #[.val (.ref a1), .val (.long q2), .second, .val (.long q3), .second] [])) _
    refine XS.aloadN X3.here hx rfl (hb hby d2_9) rfl rfl ?_
    show Steps p.tables e below (T3.setTop (mkF m 10 #[.val (.ref a1), .val (.long q2), .second, .val (.long q3), .second] [(.ref a1)])) _
    refine XS.lloadN X3.here hx rfl (hb hby d2_10) rfl ?_
    exact k
  obtain ⟨T6, h6, X6, e6, W6, st6⟩ := putF X3 hx hZ hown (host := "") (Or.inl (hw _ (List.mem_of_getElem? (i := 21) rfl))) Via.refl e3 Q5 Q4 (Or.inr ⟨(hw _ (List.mem_of_getElem? (i := 22) rfl)), rfl, hnm⟩) (hw _ (List.mem_of_getElem? (i := 6) rfl)) (ty := .long) (by decide) rfl rfl (g := (mkF m 11 #[.val (.ref a1), .val (.long q2), .second, .val (.long q3), .second] [(.long q3), (.ref a1)])) rfl rfl (hb hby d2_11)
  have Q7 : Exa Z h6 a1 "com/example/cicada/cicada/store/DueTime" := Q4.wr W6
  have Q8 : Fld Z h6 a1 "com/example/cicada/cicada/store/DueTime" "delayMs" "J" (.long q2) := U3.other W6 (Or.inr (slot_ne (Or.inr (hw _ (List.mem_of_getElem? (i := 20) rfl))) (Or.inr (hw _ (List.mem_of_getElem? (i := 22) rfl))) (by decide) (t := .long) (t' := .long) (by decide) (by decide)))
  have U6 : Fld Z h6 a1 "com/example/cicada/cicada/store/DueTime" "notBefore" "J" (.long q3) := Q5.same W6
  have Z6 : n0 ≤ h6.size := Nat.le_trans Z3 (Keep.of_wr W6).1
  have N6 := Fr.snoc X6 N3 g_a1
  have K6 := K3.wr W6 (Or.inl (List.mem_of_getElem? (i := 0) rfl))
  refine own_go st6 ?_
  obtain ⟨fs, hr, hrun, hended, hW, hsame⟩ := X6.leave (v := none) (fun _ => rfl)
  refine ⟨_, _, ?_, hrun, hended, _, _, rfl, ?_, ⟨_, rfl⟩, hW, hsame.mono (by decide) (by decide)⟩
  · show Steps p.tables e below (T6.setTop (mkF m 14 #[.val (.ref a1), .val (.long q2), .second, .val (.long q3), .second] [])) _
    exact X6.returnOut hx Bd.returns (hb hby d2_14) hr
  · show Qrm2 Z a1 q2 q3 u1 u2 h0 n0 _ T6.heap _
    rw [e6]
    exact ⟨rfl, N6, K6, Q8, U6⟩
def Qrm1 (Z : State) (q1 : Int64) (h0 : Heap) (n0 : Nat) (v : Option Value) (h : Heap) (L : List Loc) : Prop := ∃ b : Addr, v = some (.ref b) ∧ Fr n0 L ∧ Keep h0 h [] ∧ h0.size ≤ b ∧ Exa Z h b "com/example/cicada/cicada/store/DueTime" ∧ Fld Z h b "com/example/cicada/cicada/store/DueTime" "delayMs" "J" (.long q1) ∧ Fld Z h b "com/example/cicada/cicada/store/DueTime" "notBefore" "J" (.long (-9223372036854775808 : Int64))
theorem efrm1 (m : MethodId) (x0 : Int64) : entryFrame m #[(.long x0)] 2 = mkF m 0 #[.val (.long x0), .second] [] := by first | (simp [entryFrame, mkF, argsToLocals, Value.category]; done) | rfl
set_option maxRecDepth 65536 in
set_option maxHeartbeats 40000000 in
theorem rm1 (l : Launch) (Z : State) (a0 : Array Value) (hw : ∀ d ∈ tables_1, d.before a0 Z = true) (ws : List Jvm.Cond) (q1 : Int64) (h0 : Heap) (n0 : Nat) (Z0 : n0 ≤ h0.size)  :
    MetFree l (⟨"com/example/cicada/cicada/store/DueTime", "after", "(J)Lcom/example/cicada/cicada/store/DueTime;"⟩ : MethodName) (head1 (Jvm.Cond.code (⟨"com/example/cicada/cicada/store/DueTime", "after", "(J)Lcom/example/cicada/cicada/store/DueTime;"⟩ : MethodName) prog_13_method_2_code 2 (some (.object "com/example/cicada/cicada/store/DueTime")) :: ws) ({ frames := 3, cells := 1, slots := 2, locals := 41 } : Room)) (fun a U => a = #[(.long q1)] ∧ Z.Warmed39 U.vm ∧ U.heap = h0) (fun _ _ _ _ _ => True) (fun _ U o U' => ∃ v L, o = .returned v ∧ Qrm1 Z q1 h0 n0 v U'.heap L ∧ FrameEnd U o U' L ({ frames := 3, cells := 1, slots := 2, locals := 41 } : Room).cells ({ frames := 3, cells := 1, slots := 2, locals := 41 } : Room).slots) := by
  refine MetFree.of_bodySF (plainFor_of_name pn_1) hisR ?_
  intro p e s m args below meth c s₁ Bd hml0 hP hK
  obtain ⟨rfl, hZ, hh⟩ := hP
  have hx := Bd.exec
  have hby := Bd.bytes
  have hml : c.maxLocals = 2 := hml0
  have hown : s.vm.findClass "com/example/cicada/cicada/store/DueTime" = some m.cls := findClass_of_methodNamed Bd.named
  have hnm := (name_of_methodNamed Bd.named Bd.method).1
  have X0 : Stand p l e ({ frames := 3, cells := 1, slots := 2, locals := 41 } : Room) s m #[(.long q1)] below meth c s₁ [] 0 0 := Stand.of_body Bd
  have e0 : s₁.heap = h0 := by rw [← hh, Bd.state]; rfl
  have N0 := Fr.nil n0
  have K0 : Keep h0 h0 [] := Keep.refl h0 _
  refine own_go (B := s₁.setTop (mkF m 0 #[.val (.long q1), .second] [])) (fun t k => castTop (efrm1 m q1) k) ?_
  obtain ⟨T9, h9, X9, e9, E9, A9, D9, -, st9⟩ := newO X0 hx hZ hown (hw _ (List.mem_of_getElem? (i := 5) rfl)) (hw _ (List.mem_of_getElem? (i := 6) rfl)) (hw _ (List.mem_of_getElem? (i := 3) rfl)) e0 (g := (mkF m 0 #[.val (.long q1), .second] [])) rfl (hb hby d1_0) (by decide) (by decide)
  obtain ⟨b9, g9⟩ : ∃ z, z = h0.size := ⟨_, rfl⟩
  rw [← g9] at A9 D9 st9
  have low9 : n0 ≤ b9 := Nat.le_trans Z0 (Nat.le_of_eq g9.symm)
  have sz9 : h0.size ≤ b9 := Nat.le_trans K0.1 (Nat.le_of_eq g9.symm)
  have Z9 : n0 ≤ h9.size := Nat.le_trans Z0 E9.1
  have K9 := K0.ext E9
  have D9_delayMs_DueTime : Fld Z h9 b9 "com/example/cicada/cicada/store/DueTime" "delayMs" "J" (.long (0 : Int64)) := D9 (Or.inr (hw _ (List.mem_of_getElem? (i := 20) rfl))) (ty := .long) (by decide)
  have D9_notBefore_DueTime : Fld Z h9 b9 "com/example/cicada/cicada/store/DueTime" "notBefore" "J" (.long (0 : Int64)) := D9 (Or.inr (hw _ (List.mem_of_getElem? (i := 22) rfl))) (ty := .long) (by decide)
  refine own_go st9 ?_
  refine own_go (A := T9.setTop (mkF m 3 #[.val (.long q1), .second] [(.ref b9)])) (B := T9.setTop (mkF m 8 #[.val (.long q1), .second] [(.long (-9223372036854775808 : Int64)), (.long q1), (.ref b9), (.ref b9)])) (fun t k => ?_) ?_
  · show Steps p.tables e below (T9.setTop (mkF m 3 #[.val (.long q1), .second] [(.ref b9)])) _
    refine XS.dup X9.here hx rfl (hb hby d1_3) rfl rfl ?_
    show Steps p.tables e below (T9.setTop (mkF m 4 #[.val (.long q1), .second] [(.ref b9), (.ref b9)])) _
    refine XS.lloadN X9.here hx rfl (hb hby d1_4) rfl ?_
    show Steps p.tables e below (T9.setTop (mkF m 5 #[.val (.long q1), .second] [(.long q1), (.ref b9), (.ref b9)])) _
    refine X9.ldc2Long hx hown (mvT hZ (hw _ (List.mem_of_getElem? (i := 7) rfl))) (g := (mkF m 5 #[.val (.long q1), .second] [(.long q1), (.ref b9), (.ref b9)])) rfl (hb hby d1_5) _ ?_
    exact k
  obtain ⟨_, _, ⟨T10, L10, k10, n10⟩, -, X10, ⟨Lc10, hQ10, l10, y10, z10⟩, st10⟩ := X9.specialBack hx (y := (⟨"com/example/cicada/cicada/store/DueTime", "<init>", "(JJ)V"⟩ : MethodName)) rfl hown (mvT hZ (hw _ (List.mem_of_getElem? (i := 8) rfl))) (mvT hZ (hw _ (List.mem_of_getElem? (i := 9) rfl))) (mvT hZ (hw _ (List.mem_of_getElem? (i := 10) rfl))) (by decide) (backOf (W := 1) (rm2 l Z a0 hw [] b9 q1 (-9223372036854775808 : Int64) (0 : Int64) (0 : Int64) h9 n0 Z9 A9 D9_delayMs_DueTime D9_notBefore_DueTime low9) hZ (hw _ (List.mem_of_getElem? (i := 10) rfl)) (hw _ (List.mem_of_getElem? (i := 3) rfl)) (by decide) (by decide)) (g := (mkF m 8 #[.val (.long q1), .second] [(.long (-9223372036854775808 : Int64)), (.long q1), (.ref b9), (.ref b9)])) rfl (by rw [hml]; rfl) (Steps.refl _) (a := b9) (argsL := [(.long q1), (.long (-9223372036854775808 : Int64))]) (rest := [(.ref b9)]) (lenOf pd_1 rfl) rfl (by show 2 * 0 + _ ≤ _; exact Nat.le_of_eq rfl) (hb hby d1_8) (fun _ _ => ⟨rfl, e9, (by decide : 1 + 0 ≤ _), (by decide : 2 + 0 ≤ _)⟩)
  dsimp only [Pt.U, Pt.locs, Pt.cells, Pt.slots] at X10 l10 y10 z10 st10 hQ10
  subst l10 y10 z10
  obtain ⟨rfl, Nq10, Kq10, U10_0, U10_1⟩ := hQ10
  have Q11 : Exa Z T10.heap b9 "com/example/cicada/cicada/store/DueTime" := A9.keep Kq10
  have Z10 : n0 ≤ T10.heap.size := Nat.le_trans Z9 Kq10.1
  have K10 : Keep h0 T10.heap [] := K9.trans Kq10 (allS (Or.inr sz9) all0)
  have N10 := Fr.app N0 Nq10
  refine own_go (A := _) (B := T10.setTop (mkF m 11 #[.val (.long q1), .second] [(.ref b9)])) (fun t k => st10.trans k) ?_
  obtain ⟨fs, hr, hrun, hended, hW, hsame⟩ := X10.leave (v := some (.ref b9)) (fun h => by rw [Bd.returns] at h; cases h)
  refine ⟨_, _, ?_, hrun, hended, _, _, rfl, ?_, ⟨_, rfl⟩, hW, hsame.mono (by decide) (by decide)⟩
  · show Steps p.tables e below (T10.setTop (mkF m 11 #[.val (.long q1), .second] [(.ref b9)])) _
    exact retOut X10 hx Bd.returns rfl (Or.inr (Or.inr (Or.inr (Or.inr ⟨rfl, rfl, rfl⟩)))) (hb hby d1_11) hr
  · show Qrm1 Z q1 h0 n0 _ T10.heap _
    skip
    exact ⟨b9, rfl, N10, K10, sz9, Q11, U10_0, U10_1⟩
def Qrm5 (Z : State) (a1 : Addr) (w1 : Int64) (h0 : Heap) (n0 : Nat) (v : Option Value) (h : Heap) (L : List Loc) : Prop := v = some (.long w1) ∧ Fr n0 L ∧ h = h0
theorem efrm5 (m : MethodId) (x0 : Addr) : entryFrame m #[(.ref x0)] 1 = mkF m 0 #[.val (.ref x0)] [] := by first | (simp [entryFrame, mkF, argsToLocals, Value.category]; done) | rfl
set_option maxRecDepth 65536 in
set_option maxHeartbeats 40000000 in
theorem rm5 (l : Launch) (Z : State) (a0 : Array Value) (hw : ∀ d ∈ tables_1, d.before a0 Z = true) (ws : List Jvm.Cond) (a1 : Addr) (w1 : Int64) (h0 : Heap) (n0 : Nat) (Z0 : n0 ≤ h0.size) (P0 : Fld Z h0 a1 "com/example/cicada/cicada/store/DueTime" "delayMs" "J" (.long w1)) :
    MetFree l (⟨"com/example/cicada/cicada/store/DueTime", "delayMs", "()J"⟩ : MethodName) (head1 (Jvm.Cond.code (⟨"com/example/cicada/cicada/store/DueTime", "delayMs", "()J"⟩ : MethodName) prog_13_method_8_code 1 (some .long) :: ws) ({ frames := 0, cells := 0, slots := 0, locals := 0 } : Room)) (fun a U => a = #[(.ref a1)] ∧ Z.Warmed39 U.vm ∧ U.heap = h0) (fun _ _ _ _ _ => True) (fun _ U o U' => ∃ v L, o = .returned v ∧ Qrm5 Z a1 w1 h0 n0 v U'.heap L ∧ FrameEnd U o U' L ({ frames := 0, cells := 0, slots := 0, locals := 0 } : Room).cells ({ frames := 0, cells := 0, slots := 0, locals := 0 } : Room).slots) := by
  refine MetFree.of_bodySF (plainFor_of_name pn_1) hisR ?_
  intro p e s m args below meth c s₁ Bd hml0 hP hK
  obtain ⟨rfl, hZ, hh⟩ := hP
  have hx := Bd.exec
  have hby := Bd.bytes
  have hml : c.maxLocals = 1 := hml0
  have hown : s.vm.findClass "com/example/cicada/cicada/store/DueTime" = some m.cls := findClass_of_methodNamed Bd.named
  have hnm := (name_of_methodNamed Bd.named Bd.method).1
  have X0 : Stand p l e ({ frames := 0, cells := 0, slots := 0, locals := 0 } : Room) s m #[(.ref a1)] below meth c s₁ [] 0 0 := Stand.of_body Bd
  have e0 : s₁.heap = h0 := by rw [← hh, Bd.state]; rfl
  have N0 := Fr.nil n0
  have K0 : Keep h0 h0 [] := Keep.refl h0 _
  refine own_go (B := s₁.setTop (mkF m 0 #[.val (.ref a1)] [])) (fun t k => castTop (efrm5 m a1) k) ?_
  refine own_go (A := s₁.setTop (mkF m 0 #[.val (.ref a1)] [])) (B := s₁.setTop (mkF m 1 #[.val (.ref a1)] [(.ref a1)])) (fun t k => ?_) ?_
  · show Steps p.tables e below (s₁.setTop (mkF m 0 #[.val (.ref a1)] [])) _
    refine XS.aloadN X0.here hx rfl (hb hby d5_0) rfl rfl ?_
    exact k
  obtain ⟨T12, X12, e12, st12⟩ := getF X0 hx hZ hown (host := "") (Or.inl (hw _ (List.mem_of_getElem? (i := 19) rfl))) Via.refl e0 P0 (g := (mkF m 1 #[.val (.ref a1)] [(.ref a1)])) rfl rfl (hb hby d5_1)
  refine own_go st12 ?_
  obtain ⟨fs, hr, hrun, hended, hW, hsame⟩ := X12.leave (v := some (.long w1)) (fun h => by rw [Bd.returns] at h; cases h)
  refine ⟨_, _, ?_, hrun, hended, _, _, rfl, ?_, ⟨_, rfl⟩, hW, hsame.mono (by decide) (by decide)⟩
  · show Steps p.tables e below (T12.setTop (mkF m 4 #[.val (.ref a1)] [(.long w1)])) _
    exact retOut X12 hx Bd.returns rfl (Or.inr (Or.inl ⟨rfl, rfl, _, rfl⟩)) (hb hby d5_4) hr
  · show Qrm5 Z a1 w1 h0 n0 _ T12.heap _
    rw [e12]
    exact ⟨rfl, N0, rfl⟩
def Qrm6 (Z : State) (a1 : Addr) (w1 : Int64) (h0 : Heap) (n0 : Nat) (v : Option Value) (h : Heap) (L : List Loc) : Prop := v = some (.long w1) ∧ Fr n0 L ∧ h = h0
theorem efrm6 (m : MethodId) (x0 : Addr) : entryFrame m #[(.ref x0)] 1 = mkF m 0 #[.val (.ref x0)] [] := by first | (simp [entryFrame, mkF, argsToLocals, Value.category]; done) | rfl
set_option maxRecDepth 65536 in
set_option maxHeartbeats 40000000 in
theorem rm6 (l : Launch) (Z : State) (a0 : Array Value) (hw : ∀ d ∈ tables_1, d.before a0 Z = true) (ws : List Jvm.Cond) (a1 : Addr) (w1 : Int64) (h0 : Heap) (n0 : Nat) (Z0 : n0 ≤ h0.size) (P0 : Fld Z h0 a1 "com/example/cicada/cicada/store/DueTime" "notBefore" "J" (.long w1)) :
    MetFree l (⟨"com/example/cicada/cicada/store/DueTime", "notBefore", "()J"⟩ : MethodName) (head1 (Jvm.Cond.code (⟨"com/example/cicada/cicada/store/DueTime", "notBefore", "()J"⟩ : MethodName) prog_13_method_9_code 1 (some .long) :: ws) ({ frames := 0, cells := 0, slots := 0, locals := 0 } : Room)) (fun a U => a = #[(.ref a1)] ∧ Z.Warmed39 U.vm ∧ U.heap = h0) (fun _ _ _ _ _ => True) (fun _ U o U' => ∃ v L, o = .returned v ∧ Qrm6 Z a1 w1 h0 n0 v U'.heap L ∧ FrameEnd U o U' L ({ frames := 0, cells := 0, slots := 0, locals := 0 } : Room).cells ({ frames := 0, cells := 0, slots := 0, locals := 0 } : Room).slots) := by
  refine MetFree.of_bodySF (plainFor_of_name pn_1) hisR ?_
  intro p e s m args below meth c s₁ Bd hml0 hP hK
  obtain ⟨rfl, hZ, hh⟩ := hP
  have hx := Bd.exec
  have hby := Bd.bytes
  have hml : c.maxLocals = 1 := hml0
  have hown : s.vm.findClass "com/example/cicada/cicada/store/DueTime" = some m.cls := findClass_of_methodNamed Bd.named
  have hnm := (name_of_methodNamed Bd.named Bd.method).1
  have X0 : Stand p l e ({ frames := 0, cells := 0, slots := 0, locals := 0 } : Room) s m #[(.ref a1)] below meth c s₁ [] 0 0 := Stand.of_body Bd
  have e0 : s₁.heap = h0 := by rw [← hh, Bd.state]; rfl
  have N0 := Fr.nil n0
  have K0 : Keep h0 h0 [] := Keep.refl h0 _
  refine own_go (B := s₁.setTop (mkF m 0 #[.val (.ref a1)] [])) (fun t k => castTop (efrm6 m a1) k) ?_
  refine own_go (A := s₁.setTop (mkF m 0 #[.val (.ref a1)] [])) (B := s₁.setTop (mkF m 1 #[.val (.ref a1)] [(.ref a1)])) (fun t k => ?_) ?_
  · show Steps p.tables e below (s₁.setTop (mkF m 0 #[.val (.ref a1)] [])) _
    refine XS.aloadN X0.here hx rfl (hb hby d6_0) rfl rfl ?_
    exact k
  obtain ⟨T13, X13, e13, st13⟩ := getF X0 hx hZ hown (host := "") (Or.inl (hw _ (List.mem_of_getElem? (i := 21) rfl))) Via.refl e0 P0 (g := (mkF m 1 #[.val (.ref a1)] [(.ref a1)])) rfl rfl (hb hby d6_1)
  refine own_go st13 ?_
  obtain ⟨fs, hr, hrun, hended, hW, hsame⟩ := X13.leave (v := some (.long w1)) (fun h => by rw [Bd.returns] at h; cases h)
  refine ⟨_, _, ?_, hrun, hended, _, _, rfl, ?_, ⟨_, rfl⟩, hW, hsame.mono (by decide) (by decide)⟩
  · show Steps p.tables e below (T13.setTop (mkF m 4 #[.val (.ref a1)] [(.long w1)])) _
    exact retOut X13 hx Bd.returns rfl (Or.inr (Or.inl ⟨rfl, rfl, _, rfl⟩)) (hb hby d6_4) hr
  · show Qrm6 Z a1 w1 h0 n0 _ T13.heap _
    rw [e13]
    exact ⟨rfl, N0, rfl⟩
def frm8 (q1 : Int64) (q2 : Int64) : Int64 := (if q1 < q2 then q2 else q1)
def Qrm8 (Z : State) (q1 : Int64) (q2 : Int64) (h0 : Heap) (n0 : Nat) (v : Option Value) (h : Heap) (L : List Loc) : Prop := v = some (.long (frm8 q1 q2)) ∧ Fr n0 L ∧ h = h0
theorem efrm8 (m : MethodId) (x0 : Int64) (x1 : Int64) : entryFrame m #[(.long x0), (.long x1)] 4 = mkF m 0 #[.val (.long x0), .second, .val (.long x1), .second] [] := by first | (simp [entryFrame, mkF, argsToLocals, Value.category]; done) | rfl
set_option maxRecDepth 65536 in
set_option maxHeartbeats 40000000 in
theorem rm8 (l : Launch) (Z : State) (a0 : Array Value) (hw : ∀ d ∈ tables_1, d.before a0 Z = true) (ws : List Jvm.Cond) (q1 : Int64) (q2 : Int64) (h0 : Heap) (n0 : Nat) (Z0 : n0 ≤ h0.size)  :
    MetFree l (⟨"java/lang/Math", "max", "(JJ)J"⟩ : MethodName) (head1 (Jvm.Cond.code (⟨"java/lang/Math", "max", "(JJ)J"⟩ : MethodName) jdk_29_method_66_code 4 (some .long) :: ws) ({ frames := 0, cells := 0, slots := 0, locals := 0 } : Room)) (fun a U => a = #[(.long q1), (.long q2)] ∧ Z.Warmed39 U.vm ∧ U.heap = h0) (fun _ _ _ _ _ => True) (fun _ U o U' => ∃ v L, o = .returned v ∧ Qrm8 Z q1 q2 h0 n0 v U'.heap L ∧ FrameEnd U o U' L ({ frames := 0, cells := 0, slots := 0, locals := 0 } : Room).cells ({ frames := 0, cells := 0, slots := 0, locals := 0 } : Room).slots) := by
  refine MetFree.of_bodySF (Jvm.Free.JP.mathPlain rfl (by decide +kernel)) hisR ?_
  intro p e s m args below meth c s₁ Bd hml0 hP hK
  obtain ⟨rfl, hZ, hh⟩ := hP
  have hx := Bd.exec
  have hby := Bd.bytes
  have hml : c.maxLocals = 4 := hml0
  have hown : s.vm.findClass "java/lang/Math" = some m.cls := findClass_of_methodNamed Bd.named
  have hnm := (name_of_methodNamed Bd.named Bd.method).1
  have X0 : Stand p l e ({ frames := 0, cells := 0, slots := 0, locals := 0 } : Room) s m #[(.long q1), (.long q2)] below meth c s₁ [] 0 0 := Stand.of_body Bd
  have e0 : s₁.heap = h0 := by rw [← hh, Bd.state]; rfl
  have N0 := Fr.nil n0
  have K0 : Keep h0 h0 [] := Keep.refl h0 _
  refine own_go (B := s₁.setTop (mkF m 0 #[.val (.long q1), .second, .val (.long q2), .second] [])) (fun t k => castTop (efrm8 m q1 q2) k) ?_
  refine own_go (A := s₁.setTop (mkF m 0 #[.val (.long q1), .second, .val (.long q2), .second] [])) (B := s₁.setTop (mkF m 3 #[.val (.long q1), .second, .val (.long q2), .second] [(.int (lcmpW q1 q2))])) (fun t k => ?_) ?_
  · show Steps p.tables e below (s₁.setTop (mkF m 0 #[.val (.long q1), .second, .val (.long q2), .second] [])) _
    refine XS.lloadN X0.here hx rfl (hb hby d8_0) rfl ?_
    show Steps p.tables e below (s₁.setTop (mkF m 1 #[.val (.long q1), .second, .val (.long q2), .second] [(.long q1)])) _
    refine XS.lloadN X0.here hx rfl (hb hby d8_1) rfl ?_
    show Steps p.tables e below (s₁.setTop (mkF m 2 #[.val (.long q1), .second, .val (.long q2), .second] [(.long q2), (.long q1)])) _
    refine XS.lcmp X0.here hx rfl (hb hby d8_2) rfl ?_
    exact k
  by_cases hc3_14 : q1 < q2
  · refine own_go (A := s₁.setTop (mkF m 3 #[.val (.long q1), .second, .val (.long q2), .second] [(.int (lcmpW q1 q2))])) (B := s₁.setTop (mkF m 10 #[.val (.long q1), .second, .val (.long q2), .second] [])) (fun t k => ?_) ?_
    · show Steps p.tables e below (s₁.setTop (mkF m 3 #[.val (.long q1), .second, .val (.long q2), .second] [(.int (lcmpW q1 q2))])) _
      refine XS.ifYes X0.here hx rfl (pc0 := 3) (pc' := 10) rfl (hb hby d8_3) rfl ((if0 _ _).trans (tlt ((lw_lt _ _).mpr hc3_14)).1) (by decide) (by decide) ?_
      exact k
    refine own_go (A := s₁.setTop (mkF m 10 #[.val (.long q1), .second, .val (.long q2), .second] [])) (B := s₁.setTop (mkF m 11 #[.val (.long q1), .second, .val (.long q2), .second] [(.long q2)])) (fun t k => ?_) ?_
    · show Steps p.tables e below (s₁.setTop (mkF m 10 #[.val (.long q1), .second, .val (.long q2), .second] [])) _
      refine XS.lloadN X0.here hx rfl (hb hby d8_10) rfl ?_
      exact k
    obtain ⟨fs, hr, hrun, hended, hW, hsame⟩ := X0.leave (v := some (.long q2)) (fun h => by rw [Bd.returns] at h; cases h)
    refine ⟨_, _, ?_, hrun, hended, _, _, rfl, ?_, ⟨_, rfl⟩, hW, hsame.mono (by decide) (by decide)⟩
    · show Steps p.tables e below (s₁.setTop (mkF m 11 #[.val (.long q1), .second, .val (.long q2), .second] [(.long q2)])) _
      exact retOut X0 hx Bd.returns rfl (Or.inr (Or.inl ⟨rfl, rfl, _, rfl⟩)) (hb hby d8_11) hr
    · show Qrm8 Z q1 q2 h0 n0 _ s₁.heap _
      rw [e0]
      exact ⟨(by simp only [frm8, if_pos hc3_14]), N0, rfl⟩
  · refine own_go (A := s₁.setTop (mkF m 3 #[.val (.long q1), .second, .val (.long q2), .second] [(.int (lcmpW q1 q2))])) (B := s₁.setTop (mkF m 6 #[.val (.long q1), .second, .val (.long q2), .second] [])) (fun t k => ?_) ?_
    · show Steps p.tables e below (s₁.setTop (mkF m 3 #[.val (.long q1), .second, .val (.long q2), .second] [(.int (lcmpW q1 q2))])) _
      refine XS.ifNo X0.here hx rfl (hb hby d8_3) rfl ((if0 _ _).trans (flt (mt (lw_lt _ _).mp hc3_14)).1) ?_
      exact k
    refine own_go (A := s₁.setTop (mkF m 6 #[.val (.long q1), .second, .val (.long q2), .second] [])) (B := s₁.setTop (mkF m 11 #[.val (.long q1), .second, .val (.long q2), .second] [(.long q1)])) (fun t k => ?_) ?_
    · show Steps p.tables e below (s₁.setTop (mkF m 6 #[.val (.long q1), .second, .val (.long q2), .second] [])) _
      refine XS.lloadN X0.here hx rfl (hb hby d8_6) rfl ?_
      show Steps p.tables e below (s₁.setTop (mkF m 7 #[.val (.long q1), .second, .val (.long q2), .second] [(.long q1)])) _
      refine XS.goto X0.here hx rfl (pc0 := 7) (pc' := 11) rfl (hb hby d8_7) (by decide) (by decide) ?_
      exact k
    obtain ⟨fs, hr, hrun, hended, hW, hsame⟩ := X0.leave (v := some (.long q1)) (fun h => by rw [Bd.returns] at h; cases h)
    refine ⟨_, _, ?_, hrun, hended, _, _, rfl, ?_, ⟨_, rfl⟩, hW, hsame.mono (by decide) (by decide)⟩
    · show Steps p.tables e below (s₁.setTop (mkF m 11 #[.val (.long q1), .second, .val (.long q2), .second] [(.long q1)])) _
      exact retOut X0 hx Bd.returns rfl (Or.inr (Or.inl ⟨rfl, rfl, _, rfl⟩)) (hb hby d8_11) hr
    · show Qrm8 Z q1 q2 h0 n0 _ s₁.heap _
      rw [e0]
      exact ⟨(by simp only [frm8, if_neg hc3_14]), N0, rfl⟩
def Qrm7 (Z : State) (a1 : Addr) (q2 : Int64) (w1 : Int64) (w2 : Int64) (h0 : Heap) (n0 : Nat) (v : Option Value) (h : Heap) (L : List Loc) : Prop := v = some (.long (frm8 (q2 + w1) w2)) ∧ Fr n0 L ∧ h = h0
theorem efrm7 (m : MethodId) (x0 : Addr) (x1 : Int64) : entryFrame m #[(.ref x0), (.long x1)] 3 = mkF m 0 #[.val (.ref x0), .val (.long x1), .second] [] := by first | (simp [entryFrame, mkF, argsToLocals, Value.category]; done) | rfl
set_option maxRecDepth 65536 in
set_option maxHeartbeats 40000000 in
theorem rm7 (l : Launch) (Z : State) (a0 : Array Value) (hw : ∀ d ∈ tables_1, d.before a0 Z = true) (ws : List Jvm.Cond) (a1 : Addr) (q2 : Int64) (w1 : Int64) (w2 : Int64) (h0 : Heap) (n0 : Nat) (Z0 : n0 ≤ h0.size) (P0 : Fld Z h0 a1 "com/example/cicada/cicada/store/DueTime" "delayMs" "J" (.long w1)) (P1 : Fld Z h0 a1 "com/example/cicada/cicada/store/DueTime" "notBefore" "J" (.long w2)) :
    MetFree l (⟨"com/example/cicada/cicada/store/DueTime", "dueAt", "(J)J"⟩ : MethodName) (head1 (Jvm.Cond.code (⟨"com/example/cicada/cicada/store/DueTime", "dueAt", "(J)J"⟩ : MethodName) prog_13_method_4_code 3 (some .long) :: ws) ({ frames := 1, cells := 0, slots := 0, locals := 15 } : Room)) (fun a U => a = #[(.ref a1), (.long q2)] ∧ Z.Warmed39 U.vm ∧ U.heap = h0) (fun _ _ _ _ _ => True) (fun _ U o U' => ∃ v L, o = .returned v ∧ Qrm7 Z a1 q2 w1 w2 h0 n0 v U'.heap L ∧ FrameEnd U o U' L ({ frames := 1, cells := 0, slots := 0, locals := 15 } : Room).cells ({ frames := 1, cells := 0, slots := 0, locals := 15 } : Room).slots) := by
  refine MetFree.of_bodySF (plainFor_of_name pn_1) hisR ?_
  intro p e s m args below meth c s₁ Bd hml0 hP hK
  obtain ⟨rfl, hZ, hh⟩ := hP
  have hx := Bd.exec
  have hby := Bd.bytes
  have hml : c.maxLocals = 3 := hml0
  have hown : s.vm.findClass "com/example/cicada/cicada/store/DueTime" = some m.cls := findClass_of_methodNamed Bd.named
  have hnm := (name_of_methodNamed Bd.named Bd.method).1
  have X0 : Stand p l e ({ frames := 1, cells := 0, slots := 0, locals := 15 } : Room) s m #[(.ref a1), (.long q2)] below meth c s₁ [] 0 0 := Stand.of_body Bd
  have e0 : s₁.heap = h0 := by rw [← hh, Bd.state]; rfl
  have N0 := Fr.nil n0
  have K0 : Keep h0 h0 [] := Keep.refl h0 _
  refine own_go (B := s₁.setTop (mkF m 0 #[.val (.ref a1), .val (.long q2), .second] [])) (fun t k => castTop (efrm7 m a1 q2) k) ?_
  refine own_go (A := s₁.setTop (mkF m 0 #[.val (.ref a1), .val (.long q2), .second] [])) (B := s₁.setTop (mkF m 2 #[.val (.ref a1), .val (.long q2), .second] [(.ref a1), (.long q2)])) (fun t k => ?_) ?_
  · show Steps p.tables e below (s₁.setTop (mkF m 0 #[.val (.ref a1), .val (.long q2), .second] [])) _
    refine XS.lloadN X0.here hx rfl (hb hby d7_0) rfl ?_
    show Steps p.tables e below (s₁.setTop (mkF m 1 #[.val (.ref a1), .val (.long q2), .second] [(.long q2)])) _
    refine XS.aloadN X0.here hx rfl (hb hby d7_1) rfl rfl ?_
    exact k
  obtain ⟨T15, X15, e15, st15⟩ := getF X0 hx hZ hown (host := "") (Or.inl (hw _ (List.mem_of_getElem? (i := 19) rfl))) Via.refl e0 P0 (g := (mkF m 2 #[.val (.ref a1), .val (.long q2), .second] [(.ref a1), (.long q2)])) rfl rfl (hb hby d7_2)
  refine own_go st15 ?_
  refine own_go (A := T15.setTop (mkF m 5 #[.val (.ref a1), .val (.long q2), .second] [(.long w1), (.long q2)])) (B := T15.setTop (mkF m 7 #[.val (.ref a1), .val (.long q2), .second] [(.ref a1), (.long (q2 + w1))])) (fun t k => ?_) ?_
  · show Steps p.tables e below (T15.setTop (mkF m 5 #[.val (.ref a1), .val (.long q2), .second] [(.long w1), (.long q2)])) _
    refine XS.ladd X15.here hx rfl (hb hby d7_5) rfl ?_
    show Steps p.tables e below (T15.setTop (mkF m 6 #[.val (.ref a1), .val (.long q2), .second] [(.long (q2 + w1))])) _
    refine XS.aloadN X15.here hx rfl (hb hby d7_6) rfl rfl ?_
    exact k
  obtain ⟨T16, X16, e16, st16⟩ := getF X15 hx hZ hown (host := "") (Or.inl (hw _ (List.mem_of_getElem? (i := 21) rfl))) Via.refl e15 P1 (g := (mkF m 7 #[.val (.ref a1), .val (.long q2), .second] [(.ref a1), (.long (q2 + w1))])) rfl rfl (hb hby d7_7)
  refine own_go st16 ?_
  obtain ⟨_, _, ⟨T17, L17, k17, n17⟩, -, X17, ⟨Lc17, hQ17, l17, y17, z17⟩, st17⟩ := Jvm.LawKit.callS X16 hx (y := (⟨"java/lang/Math", "max", "(JJ)J"⟩ : MethodName)) hown (mvT hZ (hw _ (List.mem_of_getElem? (i := 39) rfl))) (mvT hZ (hw _ (List.mem_of_getElem? (i := 40) rfl))) (mvT hZ (hw _ (List.mem_of_getElem? (i := 41) rfl))) (mvT hZ (hw _ (List.mem_of_getElem? (i := 42) rfl))) (by decide) (backOf (W := 0) (rm8 l Z a0 hw [] (q2 + w1) w2 h0 n0 Z0 ) hZ (hw _ (List.mem_of_getElem? (i := 42) rfl)) (hw _ (List.mem_of_getElem? (i := 41) rfl)) (by decide) (by decide)) (g := (mkF m 10 #[.val (.ref a1), .val (.long q2), .second] [(.long w2), (.long (q2 + w1))])) rfl (by rw [hml]; rfl) (argsL := [(.long (q2 + w1)), (.long w2)]) (rest := []) (lenOf pd_2 rfl) rfl (by show 2 * 0 + _ ≤ _; exact Nat.le_of_eq rfl) (hb hby d7_10) (fun _ _ => ⟨rfl, e16, (by decide : 0 + 0 ≤ _), (by decide : 0 + 0 ≤ _)⟩)
  dsimp only [Pt.U, Pt.locs, Pt.cells, Pt.slots] at X17 l17 y17 z17 st17 hQ17
  subst l17 y17 z17
  obtain ⟨rfl, Nq17, e17⟩ := hQ17
  have N17 := Fr.app N0 Nq17
  refine own_go (A := _) (B := T17.setTop (mkF m 13 #[.val (.ref a1), .val (.long q2), .second] [(.long (frm8 (q2 + w1) w2))])) st17 ?_
  obtain ⟨fs, hr, hrun, hended, hW, hsame⟩ := X17.leave (v := some (.long (frm8 (q2 + w1) w2))) (fun h => by rw [Bd.returns] at h; cases h)
  refine ⟨_, _, ?_, hrun, hended, _, _, rfl, ?_, ⟨_, rfl⟩, hW, hsame.mono (by decide) (by decide)⟩
  · show Steps p.tables e below (T17.setTop (mkF m 13 #[.val (.ref a1), .val (.long q2), .second] [(.long (frm8 (q2 + w1) w2))])) _
    exact retOut X17 hx Bd.returns rfl (Or.inr (Or.inl ⟨rfl, rfl, _, rfl⟩)) (hb hby d7_13) hr
  · show Qrm7 Z a1 q2 w1 w2 h0 n0 _ T17.heap _
    rw [e17]
    exact ⟨rfl, N17, rfl⟩
theorem own_maxmin (x : Int64) : frm8 x (-9223372036854775808 : Int64) = x := by
  unfold frm8
  have e : (-9223372036854775808 : Int64).toInt = -9223372036854775808 := rfl
  have r := rng64 x
  rw [if_neg]
  rw [Int64.lt_iff_toInt_lt, e]; omega
def Qrm0 (Z : State) (q1 : Int64) (q2 : Int64) (h0 : Heap) (n0 : Nat) (v : Option Value) (h : Heap) (L : List Loc) : Prop := v = some (.int (1 : Int32)) ∧ Fr n0 L
theorem efrm0 (m : MethodId) (x0 : Int64) (x1 : Int64) : entryFrame m #[(.long x0), (.long x1)] maxLocals = mkF m 0 #[.val (.long x0), .second, .val (.long x1), .second, .unset, .unset, .unset, .unset, .unset, .unset] [] := by first | (simp [entryFrame, mkF, argsToLocals, Value.category, maxLocals]; done) | rfl
set_option maxRecDepth 65536 in
set_option maxHeartbeats 40000000 in
theorem rm0 (l : Launch) (Z : State) (a0 : Array Value) (hw : ∀ d ∈ tables_1, d.before a0 Z = true) (ws : List Jvm.Cond) (q1 : Int64) (q2 : Int64) (h0 : Heap) (n0 : Nat) (Z0 : n0 ≤ h0.size)  :
    MetFree l x (head1 (Jvm.Cond.code x code maxLocals ret :: ws) room_1) (fun a U => a = #[(.long q1), (.long q2)] ∧ Z.Warmed39 U.vm ∧ U.heap = h0) (fun _ _ _ _ _ => True) (fun _ U o U' => ∃ v L, o = .returned v ∧ Qrm0 Z q1 q2 h0 n0 v U'.heap L ∧ FrameEnd U o U' L room_1.cells room_1.slots) := by
  refine MetFree.of_bodySF (plainFor_of_name pn_2) hisR ?_
  intro p e s m args below meth c s₁ Bd hml0 hP hK
  obtain ⟨rfl, hZ, hh⟩ := hP
  have hx := Bd.exec
  have hby := Bd.bytes
  have hml : c.maxLocals = 10 := hml0
  have hown : s.vm.findClass "com/example/cicada/cicada/store/DueTimeAfterPinLaw" = some m.cls := findClass_of_methodNamed Bd.named
  have hnm := (name_of_methodNamed Bd.named Bd.method).1
  have X0 : Stand p l e room_1 s m #[(.long q1), (.long q2)] below meth c s₁ [] 0 0 := Stand.of_body Bd
  have e0 : s₁.heap = h0 := by rw [← hh, Bd.state]; rfl
  have N0 := Fr.nil n0
  have K0 : Keep h0 h0 [] := Keep.refl h0 _
  refine own_go (B := s₁.setTop (mkF m 0 #[.val (.long q1), .second, .val (.long q2), .second, .unset, .unset, .unset, .unset, .unset, .unset] [])) (fun t k => castTop (efrm0 m q1 q2) k) ?_
  refine own_go (A := s₁.setTop (mkF m 0 #[.val (.long q1), .second, .val (.long q2), .second, .unset, .unset, .unset, .unset, .unset, .unset] [])) (B := s₁.setTop (mkF m 9 #[.val (.long q1), .second, .val (.long q2), .second, .val (.long (q1 &&& (9223372036854775807 : Int64))), .second, .unset, .unset, .unset, .unset] [(.long (q1 &&& (9223372036854775807 : Int64)))])) (fun t k => ?_) ?_
  · show Steps p.tables e below (s₁.setTop (mkF m 0 #[.val (.long q1), .second, .val (.long q2), .second, .unset, .unset, .unset, .unset, .unset, .unset] [])) _
    refine XS.lloadN X0.here hx rfl (hb hby at_0) rfl ?_
    show Steps p.tables e below (s₁.setTop (mkF m 1 #[.val (.long q1), .second, .val (.long q2), .second, .unset, .unset, .unset, .unset, .unset, .unset] [(.long q1)])) _
    refine X0.ldc2Long hx hown (mvT hZ (hw _ (List.mem_of_getElem? (i := 0) rfl))) (g := (mkF m 1 #[.val (.long q1), .second, .val (.long q2), .second, .unset, .unset, .unset, .unset, .unset, .unset] [(.long q1)])) rfl (hb hby at_1) _ ?_
    show Steps p.tables e below (s₁.setTop (mkF m 4 #[.val (.long q1), .second, .val (.long q2), .second, .unset, .unset, .unset, .unset, .unset, .unset] [(.long (9223372036854775807 : Int64)), (.long q1)])) _
    refine XS.land X0.here hx rfl (hb hby at_4) rfl ?_
    show Steps p.tables e below (s₁.setTop (mkF m 5 #[.val (.long q1), .second, .val (.long q2), .second, .unset, .unset, .unset, .unset, .unset, .unset] [(.long (q1 &&& (9223372036854775807 : Int64)))])) _
    refine XS.lstore X0.here hx rfl (hb hby at_5) rfl (l' := #[.val (.long q1), .second, .val (.long q2), .second, .val (.long (q1 &&& (9223372036854775807 : Int64))), .second, .unset, .unset, .unset, .unset]) rfl ?_
    show Steps p.tables e below (s₁.setTop (mkF m 7 #[.val (.long q1), .second, .val (.long q2), .second, .val (.long (q1 &&& (9223372036854775807 : Int64))), .second, .unset, .unset, .unset, .unset] [])) _
    refine XS.lload X0.here hx rfl (hb hby at_7) rfl ?_
    exact k
  obtain ⟨_, _, ⟨T18, L18, k18, n18⟩, -, X18, ⟨Lc18, hQ18, l18, y18, z18⟩, st18⟩ := Jvm.LawKit.callS X0 hx (y := (⟨"com/example/cicada/cicada/store/DueTime", "after", "(J)Lcom/example/cicada/cicada/store/DueTime;"⟩ : MethodName)) hown (mvT hZ (hw _ (List.mem_of_getElem? (i := 1) rfl))) (mvT hZ (hw _ (List.mem_of_getElem? (i := 2) rfl))) (mvT hZ (hw _ (List.mem_of_getElem? (i := 3) rfl))) (mvT hZ (hw _ (List.mem_of_getElem? (i := 4) rfl))) (by decide) (backOf (W := 0) (rm1 l Z a0 hw [] (q1 &&& (9223372036854775807 : Int64)) h0 n0 Z0 ) hZ (hw _ (List.mem_of_getElem? (i := 4) rfl)) (hw _ (List.mem_of_getElem? (i := 3) rfl)) (by decide) (by decide)) (g := (mkF m 9 #[.val (.long q1), .second, .val (.long q2), .second, .val (.long (q1 &&& (9223372036854775807 : Int64))), .second, .unset, .unset, .unset, .unset] [(.long (q1 &&& (9223372036854775807 : Int64)))])) rfl (by rw [hml]; rfl) (argsL := [(.long (q1 &&& (9223372036854775807 : Int64)))]) (rest := []) (lenOf pd_3 rfl) rfl (by show 2 * 0 + _ ≤ _; exact Nat.le_of_eq rfl) (hb hby at_9) (fun _ _ => ⟨rfl, e0, (by decide : 0 + 1 ≤ _), (by decide : 0 + 2 ≤ _)⟩)
  dsimp only [Pt.U, Pt.locs, Pt.cells, Pt.slots] at X18 l18 y18 z18 st18 hQ18
  subst l18 y18 z18
  obtain ⟨b_18, rfl, Nq18, Kq18, sq_b_18, U18_0, U18_1, U18_2⟩ := hQ18
  have low_b_18 : n0 ≤ b_18 := Nat.le_trans Z0 sq_b_18
  have sz_b_18 : h0.size ≤ b_18 := Nat.le_trans K0.1 sq_b_18
  have Z18 : n0 ≤ T18.heap.size := Nat.le_trans Z0 Kq18.1
  have K18 : Keep h0 T18.heap [] := K0.trans Kq18 all0
  have N18 := Fr.app N0 Nq18
  refine own_go (A := _) (B := T18.setTop (mkF m 12 #[.val (.long q1), .second, .val (.long q2), .second, .val (.long (q1 &&& (9223372036854775807 : Int64))), .second, .unset, .unset, .unset, .unset] [(.ref b_18)])) st18 ?_
  refine own_go (A := T18.setTop (mkF m 12 #[.val (.long q1), .second, .val (.long q2), .second, .val (.long (q1 &&& (9223372036854775807 : Int64))), .second, .unset, .unset, .unset, .unset] [(.ref b_18)])) (B := T18.setTop (mkF m 16 #[.val (.long q1), .second, .val (.long q2), .second, .val (.long (q1 &&& (9223372036854775807 : Int64))), .second, .val (.ref b_18), .unset, .unset, .unset] [(.ref b_18)])) (fun t k => ?_) ?_
  · show Steps p.tables e below (T18.setTop (mkF m 12 #[.val (.long q1), .second, .val (.long q2), .second, .val (.long (q1 &&& (9223372036854775807 : Int64))), .second, .unset, .unset, .unset, .unset] [(.ref b_18)])) _
    refine XS.astore X18.here hx rfl (hb hby at_12) rfl rfl (l' := #[.val (.long q1), .second, .val (.long q2), .second, .val (.long (q1 &&& (9223372036854775807 : Int64))), .second, .val (.ref b_18), .unset, .unset, .unset]) rfl ?_
    show Steps p.tables e below (T18.setTop (mkF m 14 #[.val (.long q1), .second, .val (.long q2), .second, .val (.long (q1 &&& (9223372036854775807 : Int64))), .second, .val (.ref b_18), .unset, .unset, .unset] [])) _
    refine XS.aload X18.here hx rfl (hb hby at_14) rfl rfl ?_
    exact k
  obtain ⟨cq19, kq19, q19a, q19b, q19c⟩ := isOf hZ rfl U18_0
  obtain ⟨_, _, ⟨T19, L19, k19, n19⟩, -, X19, ⟨Lc19, hQ19, l19, y19, z19⟩, st19⟩ := X18.virtualBack hx (y := (⟨"com/example/cicada/cicada/store/DueTime", "delayMs", "()J"⟩ : MethodName)) (z := (⟨"com/example/cicada/cicada/store/DueTime", "delayMs", "()J"⟩ : MethodName)) hown (mvT hZ (hw _ (List.mem_of_getElem? (i := 23) rfl))) (mvT hZ (hw _ (List.mem_of_getElem? (i := 24) rfl))) (notFace_of_selects (args := #[]) (mvT hZ (hw _ (List.mem_of_getElem? (i := 26) rfl)))) (mvT hZ (hw _ (List.mem_of_getElem? (i := 26) rfl))) (mvT hZ (hw _ (List.mem_of_getElem? (i := 25) rfl))) (by decide) (backOf (W := 0) (rm5 l Z a0 hw [] b_18 (q1 &&& (9223372036854775807 : Int64)) T18.heap n0 Z18 U18_1) hZ (hw _ (List.mem_of_getElem? (i := 27) rfl)) (hw _ (List.mem_of_getElem? (i := 3) rfl)) (by decide) (by decide)) q19a q19c (g := (mkF m 16 #[.val (.long q1), .second, .val (.long q2), .second, .val (.long (q1 &&& (9223372036854775807 : Int64))), .second, .val (.ref b_18), .unset, .unset, .unset] [(.ref b_18)])) rfl (by rw [hml]; rfl) (Steps.refl _) (argsL := []) (rest := []) (lenOf pd_4 rfl) rfl (by show 2 * 0 + _ ≤ _; exact Nat.le_of_eq rfl) (hb hby at_16) (fun _ _ => ⟨rfl, rfl, (by decide : 1 + 0 ≤ _), (by decide : 2 + 0 ≤ _)⟩)
  dsimp only [Pt.U, Pt.locs, Pt.cells, Pt.slots] at X19 l19 y19 z19 st19 hQ19
  subst l19 y19 z19
  obtain ⟨rfl, Nq19, e19⟩ := hQ19
  have N19 := Fr.app N18 Nq19
  refine own_go (A := _) (B := T19.setTop (mkF m 19 #[.val (.long q1), .second, .val (.long q2), .second, .val (.long (q1 &&& (9223372036854775807 : Int64))), .second, .val (.ref b_18), .unset, .unset, .unset] [(.long (q1 &&& (9223372036854775807 : Int64)))])) (fun t k => st19.trans k) ?_
  refine own_go (A := T19.setTop (mkF m 19 #[.val (.long q1), .second, .val (.long q2), .second, .val (.long (q1 &&& (9223372036854775807 : Int64))), .second, .val (.ref b_18), .unset, .unset, .unset] [(.long (q1 &&& (9223372036854775807 : Int64)))])) (B := T19.setTop (mkF m 34 #[.val (.long q1), .second, .val (.long q2), .second, .val (.long (q1 &&& (9223372036854775807 : Int64))), .second, .val (.ref b_18), .val (.int (1 : Int32)), .unset, .unset] [(.ref b_18)])) (fun t k => ?_) ?_
  · show Steps p.tables e below (T19.setTop (mkF m 19 #[.val (.long q1), .second, .val (.long q2), .second, .val (.long (q1 &&& (9223372036854775807 : Int64))), .second, .val (.ref b_18), .unset, .unset, .unset] [(.long (q1 &&& (9223372036854775807 : Int64)))])) _
    refine XS.lload X19.here hx rfl (hb hby at_19) rfl ?_
    show Steps p.tables e below (T19.setTop (mkF m 21 #[.val (.long q1), .second, .val (.long q2), .second, .val (.long (q1 &&& (9223372036854775807 : Int64))), .second, .val (.ref b_18), .unset, .unset, .unset] [(.long (q1 &&& (9223372036854775807 : Int64))), (.long (q1 &&& (9223372036854775807 : Int64)))])) _
    refine XS.lcmp X19.here hx rfl (hb hby at_21) rfl ?_
    show Steps p.tables e below (T19.setTop (mkF m 22 #[.val (.long q1), .second, .val (.long q2), .second, .val (.long (q1 &&& (9223372036854775807 : Int64))), .second, .val (.ref b_18), .unset, .unset, .unset] [(.int (lcmpW (q1 &&& (9223372036854775807 : Int64)) (q1 &&& (9223372036854775807 : Int64))))])) _
    refine XS.ifNo X19.here hx rfl (hb hby at_22) rfl ((if0 _ _).trans (teq ((lw_eq _ _).mpr (rfl : (q1 &&& (9223372036854775807 : Int64)) = (q1 &&& (9223372036854775807 : Int64))))).2) ?_
    show Steps p.tables e below (T19.setTop (mkF m 25 #[.val (.long q1), .second, .val (.long q2), .second, .val (.long (q1 &&& (9223372036854775807 : Int64))), .second, .val (.ref b_18), .unset, .unset, .unset] [])) _
    refine XS.iconst X19.here hx rfl (hb hby at_25) ?_
    show Steps p.tables e below (T19.setTop (mkF m 26 #[.val (.long q1), .second, .val (.long q2), .second, .val (.long (q1 &&& (9223372036854775807 : Int64))), .second, .val (.ref b_18), .unset, .unset, .unset] [(.int (1 : Int32))])) _
    refine XS.goto X19.here hx rfl (pc0 := 26) (pc' := 30) rfl (hb hby at_26) (by decide) (by decide) ?_
    show Steps p.tables e below (T19.setTop (mkF m 30 #[.val (.long q1), .second, .val (.long q2), .second, .val (.long (q1 &&& (9223372036854775807 : Int64))), .second, .val (.ref b_18), .unset, .unset, .unset] [(.int (1 : Int32))])) _
    refine XS.istore X19.here hx rfl (hb hby at_30) rfl (l' := #[.val (.long q1), .second, .val (.long q2), .second, .val (.long (q1 &&& (9223372036854775807 : Int64))), .second, .val (.ref b_18), .val (.int (1 : Int32)), .unset, .unset]) rfl ?_
    show Steps p.tables e below (T19.setTop (mkF m 32 #[.val (.long q1), .second, .val (.long q2), .second, .val (.long (q1 &&& (9223372036854775807 : Int64))), .second, .val (.ref b_18), .val (.int (1 : Int32)), .unset, .unset] [])) _
    refine XS.aload X19.here hx rfl (hb hby at_32) rfl rfl ?_
    exact k
  obtain ⟨cq21, kq21, q21a, q21b, q21c⟩ := isOf hZ e19 U18_0
  obtain ⟨_, _, ⟨T21, L21, k21, n21⟩, -, X21, ⟨Lc21, hQ21, l21, y21, z21⟩, st21⟩ := X19.virtualBack hx (y := (⟨"com/example/cicada/cicada/store/DueTime", "notBefore", "()J"⟩ : MethodName)) (z := (⟨"com/example/cicada/cicada/store/DueTime", "notBefore", "()J"⟩ : MethodName)) hown (mvT hZ (hw _ (List.mem_of_getElem? (i := 28) rfl))) (mvT hZ (hw _ (List.mem_of_getElem? (i := 29) rfl))) (notFace_of_selects (args := #[]) (mvT hZ (hw _ (List.mem_of_getElem? (i := 31) rfl)))) (mvT hZ (hw _ (List.mem_of_getElem? (i := 31) rfl))) (mvT hZ (hw _ (List.mem_of_getElem? (i := 30) rfl))) (by decide) (backOf (W := 0) (rm6 l Z a0 hw [] b_18 (-9223372036854775808 : Int64) T18.heap n0 Z18 U18_2) hZ (hw _ (List.mem_of_getElem? (i := 32) rfl)) (hw _ (List.mem_of_getElem? (i := 3) rfl)) (by decide) (by decide)) q21a q21c (g := (mkF m 34 #[.val (.long q1), .second, .val (.long q2), .second, .val (.long (q1 &&& (9223372036854775807 : Int64))), .second, .val (.ref b_18), .val (.int (1 : Int32)), .unset, .unset] [(.ref b_18)])) rfl (by rw [hml]; rfl) (Steps.refl _) (argsL := []) (rest := []) (lenOf pd_4 rfl) rfl (by show 2 * 0 + _ ≤ _; exact Nat.le_of_eq rfl) (hb hby at_34) (fun _ _ => ⟨rfl, e19, (by decide : 1 + 0 ≤ _), (by decide : 2 + 0 ≤ _)⟩)
  dsimp only [Pt.U, Pt.locs, Pt.cells, Pt.slots] at X21 l21 y21 z21 st21 hQ21
  subst l21 y21 z21
  obtain ⟨rfl, Nq21, e21⟩ := hQ21
  have N21 := Fr.app N19 Nq21
  refine own_go (A := _) (B := T21.setTop (mkF m 37 #[.val (.long q1), .second, .val (.long q2), .second, .val (.long (q1 &&& (9223372036854775807 : Int64))), .second, .val (.ref b_18), .val (.int (1 : Int32)), .unset, .unset] [(.long (-9223372036854775808 : Int64))])) (fun t k => st21.trans k) ?_
  refine own_go (A := T21.setTop (mkF m 37 #[.val (.long q1), .second, .val (.long q2), .second, .val (.long (q1 &&& (9223372036854775807 : Int64))), .second, .val (.ref b_18), .val (.int (1 : Int32)), .unset, .unset] [(.long (-9223372036854775808 : Int64))])) (B := T21.setTop (mkF m 54 #[.val (.long q1), .second, .val (.long q2), .second, .val (.long (q1 &&& (9223372036854775807 : Int64))), .second, .val (.ref b_18), .val (.int (1 : Int32)), .val (.int (1 : Int32)), .unset] [(.long q2), (.ref b_18)])) (fun t k => ?_) ?_
  · show Steps p.tables e below (T21.setTop (mkF m 37 #[.val (.long q1), .second, .val (.long q2), .second, .val (.long (q1 &&& (9223372036854775807 : Int64))), .second, .val (.ref b_18), .val (.int (1 : Int32)), .unset, .unset] [(.long (-9223372036854775808 : Int64))])) _
    refine X21.ldc2Long hx hown (mvT hZ (hw _ (List.mem_of_getElem? (i := 33) rfl))) (g := (mkF m 37 #[.val (.long q1), .second, .val (.long q2), .second, .val (.long (q1 &&& (9223372036854775807 : Int64))), .second, .val (.ref b_18), .val (.int (1 : Int32)), .unset, .unset] [(.long (-9223372036854775808 : Int64))])) rfl (hb hby at_37) _ ?_
    show Steps p.tables e below (T21.setTop (mkF m 40 #[.val (.long q1), .second, .val (.long q2), .second, .val (.long (q1 &&& (9223372036854775807 : Int64))), .second, .val (.ref b_18), .val (.int (1 : Int32)), .unset, .unset] [(.long (-9223372036854775808 : Int64)), (.long (-9223372036854775808 : Int64))])) _
    refine XS.lcmp X21.here hx rfl (hb hby at_40) rfl ?_
    show Steps p.tables e below (T21.setTop (mkF m 41 #[.val (.long q1), .second, .val (.long q2), .second, .val (.long (q1 &&& (9223372036854775807 : Int64))), .second, .val (.ref b_18), .val (.int (1 : Int32)), .unset, .unset] [(.int (lcmpW (-9223372036854775808 : Int64) (-9223372036854775808 : Int64)))])) _
    refine XS.ifNo X21.here hx rfl (hb hby at_41) rfl ((if0 _ _).trans (teq ((lw_eq _ _).mpr (rfl : (-9223372036854775808 : Int64) = (-9223372036854775808 : Int64)))).2) ?_
    show Steps p.tables e below (T21.setTop (mkF m 44 #[.val (.long q1), .second, .val (.long q2), .second, .val (.long (q1 &&& (9223372036854775807 : Int64))), .second, .val (.ref b_18), .val (.int (1 : Int32)), .unset, .unset] [])) _
    refine XS.iconst X21.here hx rfl (hb hby at_44) ?_
    show Steps p.tables e below (T21.setTop (mkF m 45 #[.val (.long q1), .second, .val (.long q2), .second, .val (.long (q1 &&& (9223372036854775807 : Int64))), .second, .val (.ref b_18), .val (.int (1 : Int32)), .unset, .unset] [(.int (1 : Int32))])) _
    refine XS.goto X21.here hx rfl (pc0 := 45) (pc' := 49) rfl (hb hby at_45) (by decide) (by decide) ?_
    show Steps p.tables e below (T21.setTop (mkF m 49 #[.val (.long q1), .second, .val (.long q2), .second, .val (.long (q1 &&& (9223372036854775807 : Int64))), .second, .val (.ref b_18), .val (.int (1 : Int32)), .unset, .unset] [(.int (1 : Int32))])) _
    refine XS.istore X21.here hx rfl (hb hby at_49) rfl (l' := #[.val (.long q1), .second, .val (.long q2), .second, .val (.long (q1 &&& (9223372036854775807 : Int64))), .second, .val (.ref b_18), .val (.int (1 : Int32)), .val (.int (1 : Int32)), .unset]) rfl ?_
    show Steps p.tables e below (T21.setTop (mkF m 51 #[.val (.long q1), .second, .val (.long q2), .second, .val (.long (q1 &&& (9223372036854775807 : Int64))), .second, .val (.ref b_18), .val (.int (1 : Int32)), .val (.int (1 : Int32)), .unset] [])) _
    refine XS.aload X21.here hx rfl (hb hby at_51) rfl rfl ?_
    show Steps p.tables e below (T21.setTop (mkF m 53 #[.val (.long q1), .second, .val (.long q2), .second, .val (.long (q1 &&& (9223372036854775807 : Int64))), .second, .val (.ref b_18), .val (.int (1 : Int32)), .val (.int (1 : Int32)), .unset] [(.ref b_18)])) _
    refine XS.lloadN X21.here hx rfl (hb hby at_53) rfl ?_
    exact k
  obtain ⟨cq23, kq23, q23a, q23b, q23c⟩ := isOf hZ e21 U18_0
  obtain ⟨_, _, ⟨T23, L23, k23, n23⟩, -, X23, ⟨Lc23, hQ23, l23, y23, z23⟩, st23⟩ := X21.virtualBack hx (y := (⟨"com/example/cicada/cicada/store/DueTime", "dueAt", "(J)J"⟩ : MethodName)) (z := (⟨"com/example/cicada/cicada/store/DueTime", "dueAt", "(J)J"⟩ : MethodName)) hown (mvT hZ (hw _ (List.mem_of_getElem? (i := 34) rfl))) (mvT hZ (hw _ (List.mem_of_getElem? (i := 35) rfl))) (notFace_of_selects (args := #[]) (mvT hZ (hw _ (List.mem_of_getElem? (i := 37) rfl)))) (mvT hZ (hw _ (List.mem_of_getElem? (i := 37) rfl))) (mvT hZ (hw _ (List.mem_of_getElem? (i := 36) rfl))) (by decide) (backOf (W := 0) (rm7 l Z a0 hw [] b_18 q2 (q1 &&& (9223372036854775807 : Int64)) (-9223372036854775808 : Int64) T18.heap n0 Z18 U18_1 U18_2) hZ (hw _ (List.mem_of_getElem? (i := 38) rfl)) (hw _ (List.mem_of_getElem? (i := 3) rfl)) (by decide) (by decide)) q23a q23c (g := (mkF m 54 #[.val (.long q1), .second, .val (.long q2), .second, .val (.long (q1 &&& (9223372036854775807 : Int64))), .second, .val (.ref b_18), .val (.int (1 : Int32)), .val (.int (1 : Int32)), .unset] [(.long q2), (.ref b_18)])) rfl (by rw [hml]; rfl) (Steps.refl _) (argsL := [(.long q2)]) (rest := []) (lenOf pd_5 rfl) rfl (by show 2 * 0 + _ ≤ _; exact Nat.le_of_eq rfl) (hb hby at_54) (fun _ _ => ⟨rfl, e21, (by decide : 1 + 0 ≤ _), (by decide : 2 + 0 ≤ _)⟩)
  dsimp only [Pt.U, Pt.locs, Pt.cells, Pt.slots] at X23 l23 y23 z23 st23 hQ23
  subst l23 y23 z23
  obtain ⟨rfl, Nq23, e23⟩ := hQ23
  have N23 := Fr.app N21 Nq23
  refine own_go (A := _) (B := T23.setTop (mkF m 57 #[.val (.long q1), .second, .val (.long q2), .second, .val (.long (q1 &&& (9223372036854775807 : Int64))), .second, .val (.ref b_18), .val (.int (1 : Int32)), .val (.int (1 : Int32)), .unset] [(.long (frm8 (q2 + (q1 &&& (9223372036854775807 : Int64))) (-9223372036854775808 : Int64)))])) (fun t k => st23.trans k) ?_
  refine own_go (A := T23.setTop (mkF m 57 #[.val (.long q1), .second, .val (.long q2), .second, .val (.long (q1 &&& (9223372036854775807 : Int64))), .second, .val (.ref b_18), .val (.int (1 : Int32)), .val (.int (1 : Int32)), .unset] [(.long (frm8 (q2 + (q1 &&& (9223372036854775807 : Int64))) (-9223372036854775808 : Int64)))])) (B := T23.setTop (mkF m 62 #[.val (.long q1), .second, .val (.long q2), .second, .val (.long (q1 &&& (9223372036854775807 : Int64))), .second, .val (.ref b_18), .val (.int (1 : Int32)), .val (.int (1 : Int32)), .unset] [(.int (lcmpW (frm8 (q2 + (q1 &&& (9223372036854775807 : Int64))) (-9223372036854775808 : Int64)) (q2 + (q1 &&& (9223372036854775807 : Int64)))))])) (fun t k => ?_) ?_
  · show Steps p.tables e below (T23.setTop (mkF m 57 #[.val (.long q1), .second, .val (.long q2), .second, .val (.long (q1 &&& (9223372036854775807 : Int64))), .second, .val (.ref b_18), .val (.int (1 : Int32)), .val (.int (1 : Int32)), .unset] [(.long (frm8 (q2 + (q1 &&& (9223372036854775807 : Int64))) (-9223372036854775808 : Int64)))])) _
    refine XS.lloadN X23.here hx rfl (hb hby at_57) rfl ?_
    show Steps p.tables e below (T23.setTop (mkF m 58 #[.val (.long q1), .second, .val (.long q2), .second, .val (.long (q1 &&& (9223372036854775807 : Int64))), .second, .val (.ref b_18), .val (.int (1 : Int32)), .val (.int (1 : Int32)), .unset] [(.long q2), (.long (frm8 (q2 + (q1 &&& (9223372036854775807 : Int64))) (-9223372036854775808 : Int64)))])) _
    refine XS.lload X23.here hx rfl (hb hby at_58) rfl ?_
    show Steps p.tables e below (T23.setTop (mkF m 60 #[.val (.long q1), .second, .val (.long q2), .second, .val (.long (q1 &&& (9223372036854775807 : Int64))), .second, .val (.ref b_18), .val (.int (1 : Int32)), .val (.int (1 : Int32)), .unset] [(.long (q1 &&& (9223372036854775807 : Int64))), (.long q2), (.long (frm8 (q2 + (q1 &&& (9223372036854775807 : Int64))) (-9223372036854775808 : Int64)))])) _
    refine XS.ladd X23.here hx rfl (hb hby at_60) rfl ?_
    show Steps p.tables e below (T23.setTop (mkF m 61 #[.val (.long q1), .second, .val (.long q2), .second, .val (.long (q1 &&& (9223372036854775807 : Int64))), .second, .val (.ref b_18), .val (.int (1 : Int32)), .val (.int (1 : Int32)), .unset] [(.long (q2 + (q1 &&& (9223372036854775807 : Int64)))), (.long (frm8 (q2 + (q1 &&& (9223372036854775807 : Int64))) (-9223372036854775808 : Int64)))])) _
    refine XS.lcmp X23.here hx rfl (hb hby at_61) rfl ?_
    exact k
  have hc62_24 : ((frm8 (q2 + (q1 &&& (9223372036854775807 : Int64))) (-9223372036854775808 : Int64)) = (q2 + (q1 &&& (9223372036854775807 : Int64)))) := own_maxmin _
  refine own_go (A := T23.setTop (mkF m 62 #[.val (.long q1), .second, .val (.long q2), .second, .val (.long (q1 &&& (9223372036854775807 : Int64))), .second, .val (.ref b_18), .val (.int (1 : Int32)), .val (.int (1 : Int32)), .unset] [(.int (lcmpW (frm8 (q2 + (q1 &&& (9223372036854775807 : Int64))) (-9223372036854775808 : Int64)) (q2 + (q1 &&& (9223372036854775807 : Int64)))))])) (B := T23.setTop (mkF m 92 #[.val (.long q1), .second, .val (.long q2), .second, .val (.long (q1 &&& (9223372036854775807 : Int64))), .second, .val (.ref b_18), .val (.int (1 : Int32)), .val (.int (1 : Int32)), .val (.int (1 : Int32))] [(.int (1 : Int32))])) (fun t k => ?_) ?_
  · show Steps p.tables e below (T23.setTop (mkF m 62 #[.val (.long q1), .second, .val (.long q2), .second, .val (.long (q1 &&& (9223372036854775807 : Int64))), .second, .val (.ref b_18), .val (.int (1 : Int32)), .val (.int (1 : Int32)), .unset] [(.int (lcmpW (frm8 (q2 + (q1 &&& (9223372036854775807 : Int64))) (-9223372036854775808 : Int64)) (q2 + (q1 &&& (9223372036854775807 : Int64)))))])) _
    refine XS.ifNo X23.here hx rfl (hb hby at_62) rfl ((if0 _ _).trans (teq ((lw_eq _ _).mpr hc62_24)).2) ?_
    show Steps p.tables e below (T23.setTop (mkF m 65 #[.val (.long q1), .second, .val (.long q2), .second, .val (.long (q1 &&& (9223372036854775807 : Int64))), .second, .val (.ref b_18), .val (.int (1 : Int32)), .val (.int (1 : Int32)), .unset] [])) _
    refine XS.iconst X23.here hx rfl (hb hby at_65) ?_
    show Steps p.tables e below (T23.setTop (mkF m 66 #[.val (.long q1), .second, .val (.long q2), .second, .val (.long (q1 &&& (9223372036854775807 : Int64))), .second, .val (.ref b_18), .val (.int (1 : Int32)), .val (.int (1 : Int32)), .unset] [(.int (1 : Int32))])) _
    refine XS.goto X23.here hx rfl (pc0 := 66) (pc' := 70) rfl (hb hby at_66) (by decide) (by decide) ?_
    show Steps p.tables e below (T23.setTop (mkF m 70 #[.val (.long q1), .second, .val (.long q2), .second, .val (.long (q1 &&& (9223372036854775807 : Int64))), .second, .val (.ref b_18), .val (.int (1 : Int32)), .val (.int (1 : Int32)), .unset] [(.int (1 : Int32))])) _
    refine XS.istore X23.here hx rfl (hb hby at_70) rfl (l' := #[.val (.long q1), .second, .val (.long q2), .second, .val (.long (q1 &&& (9223372036854775807 : Int64))), .second, .val (.ref b_18), .val (.int (1 : Int32)), .val (.int (1 : Int32)), .val (.int (1 : Int32))]) rfl ?_
    show Steps p.tables e below (T23.setTop (mkF m 72 #[.val (.long q1), .second, .val (.long q2), .second, .val (.long (q1 &&& (9223372036854775807 : Int64))), .second, .val (.ref b_18), .val (.int (1 : Int32)), .val (.int (1 : Int32)), .val (.int (1 : Int32))] [])) _
    refine XS.iload X23.here hx rfl (hb hby at_72) rfl ?_
    show Steps p.tables e below (T23.setTop (mkF m 74 #[.val (.long q1), .second, .val (.long q2), .second, .val (.long (q1 &&& (9223372036854775807 : Int64))), .second, .val (.ref b_18), .val (.int (1 : Int32)), .val (.int (1 : Int32)), .val (.int (1 : Int32))] [(.int (1 : Int32))])) _
    refine XS.ifNo X23.here hx rfl (hb hby at_74) rfl ((if0 _ _).trans (feq (by decide : ¬ ((1 : Int32) = (0 : Int32)))).1) ?_
    show Steps p.tables e below (T23.setTop (mkF m 77 #[.val (.long q1), .second, .val (.long q2), .second, .val (.long (q1 &&& (9223372036854775807 : Int64))), .second, .val (.ref b_18), .val (.int (1 : Int32)), .val (.int (1 : Int32)), .val (.int (1 : Int32))] [])) _
    refine XS.iload X23.here hx rfl (hb hby at_77) rfl ?_
    show Steps p.tables e below (T23.setTop (mkF m 79 #[.val (.long q1), .second, .val (.long q2), .second, .val (.long (q1 &&& (9223372036854775807 : Int64))), .second, .val (.ref b_18), .val (.int (1 : Int32)), .val (.int (1 : Int32)), .val (.int (1 : Int32))] [(.int (1 : Int32))])) _
    refine XS.ifNo X23.here hx rfl (hb hby at_79) rfl ((if0 _ _).trans (feq (by decide : ¬ ((1 : Int32) = (0 : Int32)))).1) ?_
    show Steps p.tables e below (T23.setTop (mkF m 82 #[.val (.long q1), .second, .val (.long q2), .second, .val (.long (q1 &&& (9223372036854775807 : Int64))), .second, .val (.ref b_18), .val (.int (1 : Int32)), .val (.int (1 : Int32)), .val (.int (1 : Int32))] [])) _
    refine XS.iload X23.here hx rfl (hb hby at_82) rfl ?_
    show Steps p.tables e below (T23.setTop (mkF m 84 #[.val (.long q1), .second, .val (.long q2), .second, .val (.long (q1 &&& (9223372036854775807 : Int64))), .second, .val (.ref b_18), .val (.int (1 : Int32)), .val (.int (1 : Int32)), .val (.int (1 : Int32))] [(.int (1 : Int32))])) _
    refine XS.ifNo X23.here hx rfl (hb hby at_84) rfl ((if0 _ _).trans (feq (by decide : ¬ ((1 : Int32) = (0 : Int32)))).1) ?_
    show Steps p.tables e below (T23.setTop (mkF m 87 #[.val (.long q1), .second, .val (.long q2), .second, .val (.long (q1 &&& (9223372036854775807 : Int64))), .second, .val (.ref b_18), .val (.int (1 : Int32)), .val (.int (1 : Int32)), .val (.int (1 : Int32))] [])) _
    refine XS.iconst X23.here hx rfl (hb hby at_87) ?_
    show Steps p.tables e below (T23.setTop (mkF m 88 #[.val (.long q1), .second, .val (.long q2), .second, .val (.long (q1 &&& (9223372036854775807 : Int64))), .second, .val (.ref b_18), .val (.int (1 : Int32)), .val (.int (1 : Int32)), .val (.int (1 : Int32))] [(.int (1 : Int32))])) _
    refine XS.goto X23.here hx rfl (pc0 := 88) (pc' := 92) rfl (hb hby at_88) (by decide) (by decide) ?_
    exact k
  obtain ⟨fs, hr, hrun, hended, hW, hsame⟩ := X23.leave (v := some (.int (1 : Int32))) (fun h => by rw [Bd.returns] at h; cases h)
  refine ⟨_, _, ?_, hrun, hended, _, _, rfl, ?_, ⟨_, rfl⟩, hW, hsame.mono (by decide) (by decide)⟩
  · show Steps p.tables e below (T23.setTop (mkF m 92 #[.val (.long q1), .second, .val (.long q2), .second, .val (.long (q1 &&& (9223372036854775807 : Int64))), .second, .val (.ref b_18), .val (.int (1 : Int32)), .val (.int (1 : Int32)), .val (.int (1 : Int32))] [(.int (1 : Int32))])) _
    exact retN X23 hx (t := .boolean) Bd.returns (by simp) (hb hby at_92) hr
  · show Qrm0 Z q1 q2 h0 n0 _ T23.heap _
    rw [e23]
    exact ⟨rfl, N23⟩
set_option maxRecDepth 65536 in
set_option maxHeartbeats 40000000 in
theorem comes_1 {Post : Tables → Env → Array Value → State → Outcome → State → Prop} (hpost : ∀ tb e args s v u, (limb_1_1.after args s (.returned v) u = true ∧ limb_1_2.after args s (.returned v) u = true ∧ True) → FrameEnd s (.returned v) u (Jvm.fieldLocs frame_1_writes args s ++ Jvm.arrayLocs frame_1_arrays args s ++ Jvm.staticLocs frame_1_statics s) 16 128 → Post tb e args s (.returned v) u) :
    ArmFor flags0 classFile x code maxLocals ret World_1 tables_1 room_1 Calls_1 rest_1 Pre_1 Post := by
  intro l hfl _ _ p e ha hc hk s m args below hf hA hF happ hP
  obtain ⟨hcalls, hrest, hpre⟩ := hP
  obtain ⟨-, -, -, hnamed, -, -, -, hat⟩ := (Spec.applies_iff hf).mp happ
  obtain ⟨hg, hn⟩ := and_e (Cond.before_iff.mp (show (Jvm.Cond.and given_1 narrow_1).before args s = true from hpre))
  obtain ⟨hg0, hgs⟩ := and_e hg
  obtain ⟨w0, w1, rfl⟩ : ∃ w0 w1 : Value, args = #[w0, w1] := by
    have hs : args.size = 2 := by simpa [Cond.value, given_1] using hg0
    obtain ⟨L⟩ := args
    match L, hs with
    | [w0, w1], _ => exact ⟨w0, w1, rfl⟩
  have hw := fun d (hd : d ∈ tables_1) => atoms_spec (ws := Jvm.Cond.code x code maxLocals ret :: tables_1) hat d (List.mem_cons_of_mem _ hd)
  have hfit : Fit s := fun {y c} hc i hi => by
    obtain ⟨ha, rfl⟩ := Array.getElem?_eq_some_iff.mp hc
    have q := List.all_eq_true.mp ((Array.all_eq_true_iff_forall_mem.mp hF) _ (Array.getElem_mem ha)) i (List.mem_range.mpr hi)
    simpa [Array.getElem?_eq_getElem hi] using q
  obtain ⟨gi0, gr0⟩ := and_e hgs
  obtain ⟨i0, ei0⟩ := isL_v gi0
  obtain rfl : w0 = (.long i0) := Option.some.inj ei0
  obtain ⟨i1, ei1⟩ := isL_v gr0
  obtain rfl : w1 = (.long i1) := Option.some.inj ei1
  obtain ⟨n, o, h1, h2, h3, _, L, rfl, ⟨hv, N⟩, hq⟩ := rm0 l s _ hw tables_1 i0 i1  s.heap s.heap.size (Nat.le_refl _)  p e ha hc hk s m _ below hf ((Spec.applies_iff_loose hf).mp happ).1 ⟨rfl, State.Warmed39.refl s, rfl⟩ trivial
  obtain rfl := hv
  refine ⟨n, _, h1, h2, h3, hpost _ _ _ _ _ _ ⟨Cond.after_iff.mpr rfl, Cond.after_iff.mpr (eq_i res_at (Term.int_eval (1)) rfl), trivial⟩ ⟨hq.1, hq.2.1, (hq.2.2.sift fun y hy => Or.inr (N y hy)).mono (by decide) (by decide)⟩⟩
theorem main_1_1 : Claimed_1_1 := comes_1 fun _ _ _ _ _ _ h hF => ⟨h.1, hF⟩
theorem main_1_2 : Claimed_1_2 := comes_1 fun _ _ _ _ _ _ h hF => ⟨h.2.1, hF⟩
end Jvm.Pilot.@@N@@
namespace Jvm.Pilot.@@N@@
open Jvm Jvm.ClassFile Sem Op Lib Jvm.Free Jvm.Stand Jvm.Pilot.@@N@@.Jvm.D
/-! MADE BY PROGRAM (witnessworld.py) out of the Statement's table words and the real class files: 11 classes; the members and pool entries that the words name. The judged class is class 1, her method 1. -/
namespace start1
open Jvm.ClassFile
def u (s : String) : CpInfo := .utf8 (stringToUtf16 s)
/-- a pool by its gaps: so many unusable entries, then the entry; so many at the end -/
def gap : Nat → List CpInfo → List CpInfo
  | 0, r => r
  | n + 1, r => .unusable :: gap n r
def poolList (es : List (Nat × CpInfo)) (last : Nat) : List CpInfo := es.foldr (fun e r => gap e.1 (e.2 :: r)) (gap last [])
def pool (es : List (Nat × CpInfo)) (last : Nat) : Array CpInfo := ⟨poolList es last⟩
def fileOf (pool : Array CpInfo) (this : Nat) (attrs : Array Attribute := #[]) (ms : Array MethodInfo := #[]) (fl : Nat := 33) (sup : Nat := 0) (ifs : Array Nat := #[]) (fds : Array FieldInfo := #[]) : ClassFile where
  minorVersion := 0
  majorVersion := 65
  constantPool := pool
  accessFlags := fl
  thisClass := this
  superClass := sup
  interfaces := ifs
  fields := fds
  methods := ms
  attributes := attrs
def plain (name : String) (sup : Option ClassId) : Class where
  name := name
  kind := .ordinary
  loader := none
  accessFlags := 33
  super := sup
  interfaces := #[]
  cf := none
  fields := #[]
  methods := #[]
  instanceTypes := #[]
  staticTypes := #[]
  resolved := #[]
  callSites := []
  init := .initialized
  statics := none
  mirror := none

def pool0 : Array CpInfo := pool [(5, u "<init>"), (0, u "()V"), (1, .class_ 10), (1, u "java/lang/Object")] 113

def k0c0 : Code := { maxStack := 0, maxLocals := 1, code := object_method_1_code, exceptionTable := #[], attributes := #[] }
def k0m0 : Method := { name := "<init>", desc := "()V", sig := { parameters := [], returnType := none }, accessFlags := 1, code := some k0c0 }
/-- java/lang/Object -/
def k0 : Class := { plain "java/lang/Object" none with
  accessFlags := 33
  interfaces := #[]
  cf := some (fileOf pool0 8 #[] #[{ accessFlags := 1, nameIndex := 5, descriptorIndex := 6, attributes := #[] }] 33 0 #[] #[])
  fields := #[]
  methods := #[k0m0]
  instanceTypes := #[]
  staticTypes := #[]
  resolved := Array.replicate 124 none
  statics := none }

def pool1 : Array CpInfo := pool [(2, .class_ 4), (1, u "java/lang/Object"), (0, u "<init>"), (0, u "()V"), (2, .long 9223372036854775807), (1, .methodref 12 13), (0, .class_ 14), (0, .nameAndType 15 16), (0, u "com/example/cicada/cicada/store/DueTime"), (0, u "after"), (0, u "(J)Lcom/example/cicada/cicada/store/DueTime;"), (0, .methodref 12 18), (0, .nameAndType 19 20), (0, u "delayMs"), (0, u "()J"), (0, .methodref 12 22), (0, .nameAndType 23 20), (0, u "notBefore"), (0, .long 9223372036854775808), (1, .methodref 12 27), (0, .nameAndType 28 29), (0, u "dueAt"), (0, u "(J)J"), (0, .class_ 31), (0, u "com/example/cicada/cicada/store/DueTimeAfterPinLaw"), (2, u "law"), (0, u "(JJ)Z")] 3

def k1m0 : Method := { name := "<init>", desc := "()V", sig := { parameters := [], returnType := none }, accessFlags := 1, code := none }
def k1c1 : Code := { maxStack := 6, maxLocals := 10, code := code, exceptionTable := #[], attributes := #[] }
def k1m1 : Method := { name := "law", desc := "(JJ)Z", sig := { parameters := [.long, .long], returnType := some .boolean }, accessFlags := 9, code := some k1c1 }
/-- com/example/cicada/cicada/store/DueTimeAfterPinLaw -/
def k1 : Class := { plain "com/example/cicada/cicada/store/DueTimeAfterPinLaw" (some 0) with
  accessFlags := 49
  interfaces := #[]
  cf := some (fileOf pool1 30 #[] #[{ accessFlags := 1, nameIndex := 5, descriptorIndex := 6, attributes := #[] }, { accessFlags := 9, nameIndex := 34, descriptorIndex := 35, attributes := #[] }] 49 2 #[] #[])
  fields := #[]
  methods := #[k1m0, k1m1]
  instanceTypes := #[]
  staticTypes := #[]
  resolved := Array.replicate 39 none
  statics := none }

def pool2 : Array CpInfo := pool [(1, .methodref 2 3), (0, .class_ 4), (0, .nameAndType 5 6), (0, u "java/lang/Object"), (0, u "<init>"), (0, u "()V"), (0, .class_ 8), (0, u "java/lang/Record")] 13

def k2c0 : Code := { maxStack := 1, maxLocals := 1, code := jdk_30_method_1_code, exceptionTable := #[], attributes := #[] }
def k2m0 : Method := { name := "<init>", desc := "()V", sig := { parameters := [], returnType := none }, accessFlags := 4, code := some k2c0 }
/-- java/lang/Record -/
def k2 : Class := { plain "java/lang/Record" (some 0) with
  accessFlags := 1057
  interfaces := #[]
  cf := some (fileOf pool2 7 #[] #[{ accessFlags := 4, nameIndex := 5, descriptorIndex := 6, attributes := #[] }] 1057 2 #[] #[])
  fields := #[]
  methods := #[k2m0]
  instanceTypes := #[]
  staticTypes := #[]
  resolved := Array.replicate 22 none
  statics := none }

def pool3 : Array CpInfo := pool [(1, .methodref 2 3), (0, .class_ 4), (0, .nameAndType 5 6), (0, u "java/lang/Record"), (0, u "<init>"), (0, u "()V"), (0, .fieldref 8 9), (0, .class_ 10), (0, .nameAndType 11 12), (0, u "com/example/cicada/cicada/store/DueTime"), (0, u "delayMs"), (0, u "J"), (0, .fieldref 8 14), (0, .nameAndType 15 12), (0, u "notBefore"), (2, .long 9223372036854775808), (1, .methodref 8 21), (0, .nameAndType 5 22), (0, u "(JJ)V"), (0, .methodref 24 25), (0, .class_ 26), (0, .nameAndType 27 28), (0, u "java/lang/Math"), (0, u "max"), (0, u "(JJ)J"), (15, u "after"), (0, u "(J)Lcom/example/cicada/cicada/store/DueTime;"), (1, u "dueAt"), (0, u "(J)J"), (3, u "()J")] 21

def k3c0 : Code := { maxStack := 3, maxLocals := 5, code := prog_13_method_1_code, exceptionTable := #[], attributes := #[] }
def k3m0 : Method := { name := "<init>", desc := "(JJ)V", sig := { parameters := [.long, .long], returnType := none }, accessFlags := 1, code := some k3c0 }
def k3c1 : Code := { maxStack := 6, maxLocals := 2, code := prog_13_method_2_code, exceptionTable := #[], attributes := #[] }
def k3m1 : Method := { name := "after", desc := "(J)Lcom/example/cicada/cicada/store/DueTime;", sig := { parameters := [.long], returnType := some (.object "com/example/cicada/cicada/store/DueTime") }, accessFlags := 9, code := some k3c1 }
def k3c2 : Code := { maxStack := 4, maxLocals := 3, code := prog_13_method_4_code, exceptionTable := #[], attributes := #[] }
def k3m2 : Method := { name := "dueAt", desc := "(J)J", sig := { parameters := [.long], returnType := some .long }, accessFlags := 0, code := some k3c2 }
def k3c3 : Code := { maxStack := 2, maxLocals := 1, code := prog_13_method_8_code, exceptionTable := #[], attributes := #[] }
def k3m3 : Method := { name := "delayMs", desc := "()J", sig := { parameters := [], returnType := some .long }, accessFlags := 1, code := some k3c3 }
def k3c4 : Code := { maxStack := 2, maxLocals := 1, code := prog_13_method_9_code, exceptionTable := #[], attributes := #[] }
def k3m4 : Method := { name := "notBefore", desc := "()J", sig := { parameters := [], returnType := some .long }, accessFlags := 1, code := some k3c4 }
/-- com/example/cicada/cicada/store/DueTime -/
def k3 : Class := { plain "com/example/cicada/cicada/store/DueTime" (some 2) with
  accessFlags := 49
  interfaces := #[]
  cf := some (fileOf pool3 8 #[] #[{ accessFlags := 1, nameIndex := 5, descriptorIndex := 22, attributes := #[] }, { accessFlags := 9, nameIndex := 44, descriptorIndex := 45, attributes := #[] }, { accessFlags := 0, nameIndex := 47, descriptorIndex := 48, attributes := #[] }, { accessFlags := 1, nameIndex := 11, descriptorIndex := 52, attributes := #[] }, { accessFlags := 1, nameIndex := 15, descriptorIndex := 52, attributes := #[] }] 49 2 #[] #[{ accessFlags := 18, nameIndex := 11, descriptorIndex := 12, attributes := #[] }, { accessFlags := 18, nameIndex := 15, descriptorIndex := 12, attributes := #[] }])
  fields := #[{ name := "delayMs", type := .long, accessFlags := 18, slot := 0, constantValue := 0 }, { name := "notBefore", type := .long, accessFlags := 18, slot := 1, constantValue := 0 }]
  methods := #[k3m0, k3m1, k3m2, k3m3, k3m4]
  instanceTypes := #[.long, .long]
  staticTypes := #[]
  resolved := Array.replicate 74 none
  statics := none }

def pool4 : Array CpInfo := pool [(1, .class_ 2), (0, u "java/lang/Math"), (1, .class_ 6), (1, u "java/lang/Object"), (0, u "<init>"), (0, u "()V"), (89, .class_ 100), (1, u "java/lang/Math$RandomNumberGeneratorHolder"), (20, u "(JJ)J"), (50, u "negativeZeroFloatBits"), (0, u "J"), (2, u "negativeZeroDoubleBits"), (21, u "max"), (46, u "$assertionsDisabled"), (0, u "Z"), (91, u "twoToTheDoubleScaleDown"), (0, u "D"), (4, u "twoToTheDoubleScaleUp"), (9, u "E"), (3, u "PI"), (2, u "TAU"), (2, u "DEGREES_TO_RADIANS"), (0, u "RADIANS_TO_DEGREES")] 94

def k4m0 : Method := { name := "<init>", desc := "()V", sig := { parameters := [], returnType := none }, accessFlags := 2, code := none }
def k4c1 : Code := { maxStack := 4, maxLocals := 4, code := jdk_29_method_66_code, exceptionTable := #[], attributes := #[] }
def k4m1 : Method := { name := "max", desc := "(JJ)J", sig := { parameters := [.long, .long], returnType := some .long }, accessFlags := 9, code := some k4c1 }
/-- java/lang/Math -/
def k4 : Class := { plain "java/lang/Math" (some 0) with
  accessFlags := 49
  interfaces := #[]
  cf := some (fileOf pool4 1 #[.nestMembers #[98]] #[{ accessFlags := 2, nameIndex := 7, descriptorIndex := 8, attributes := #[] }, { accessFlags := 9, nameIndex := 198, descriptorIndex := 121, attributes := #[] }] 49 4 #[] #[{ accessFlags := 25, nameIndex := 354, descriptorIndex := 339, attributes := #[] }, { accessFlags := 25, nameIndex := 358, descriptorIndex := 339, attributes := #[] }, { accessFlags := 25, nameIndex := 361, descriptorIndex := 339, attributes := #[] }, { accessFlags := 26, nameIndex := 364, descriptorIndex := 339, attributes := #[] }, { accessFlags := 26, nameIndex := 365, descriptorIndex := 339, attributes := #[] }, { accessFlags := 26, nameIndex := 172, descriptorIndex := 173, attributes := #[] }, { accessFlags := 26, nameIndex := 176, descriptorIndex := 173, attributes := #[] }, { accessFlags := 8, nameIndex := 344, descriptorIndex := 339, attributes := #[] }, { accessFlags := 8, nameIndex := 338, descriptorIndex := 339, attributes := #[] }, { accessFlags := 4120, nameIndex := 245, descriptorIndex := 246, attributes := #[] }])
  fields := #[{ name := "E", type := .double, accessFlags := 25, slot := 0, constantValue := 0 }, { name := "PI", type := .double, accessFlags := 25, slot := 1, constantValue := 0 }, { name := "TAU", type := .double, accessFlags := 25, slot := 2, constantValue := 0 }, { name := "DEGREES_TO_RADIANS", type := .double, accessFlags := 26, slot := 3, constantValue := 0 }, { name := "RADIANS_TO_DEGREES", type := .double, accessFlags := 26, slot := 4, constantValue := 0 }, { name := "negativeZeroFloatBits", type := .long, accessFlags := 26, slot := 5, constantValue := 0 }, { name := "negativeZeroDoubleBits", type := .long, accessFlags := 26, slot := 6, constantValue := 0 }, { name := "twoToTheDoubleScaleUp", type := .double, accessFlags := 8, slot := 7, constantValue := 0 }, { name := "twoToTheDoubleScaleDown", type := .double, accessFlags := 8, slot := 8, constantValue := 0 }, { name := "$assertionsDisabled", type := .boolean, accessFlags := 4120, slot := 9, constantValue := 0 }]
  methods := #[k4m0, k4m1]
  instanceTypes := #[]
  staticTypes := #[.double, .double, .double, .double, .double, .long, .long, .double, .double, .boolean]
  resolved := Array.replicate 460 none
  statics := none }

def pool5 : Array CpInfo := pool [(1, u "java/lang/Cloneable"), (0, .class_ 1), (0, u "java/lang/Object"), (0, .class_ 3)] 3

/-- java/lang/Cloneable -/
def k5 : Class := { plain "java/lang/Cloneable" (some 0) with
  accessFlags := 1537
  interfaces := #[]
  cf := some (fileOf pool5 2 #[] #[] 1537 4 #[] #[])
  fields := #[]
  methods := #[]
  instanceTypes := #[]
  staticTypes := #[]
  resolved := Array.replicate 8 none
  statics := none }

def pool6 : Array CpInfo := pool [(1, u "java/io/Serializable"), (0, .class_ 1), (0, u "java/lang/Object"), (0, .class_ 3)] 3

/-- java/io/Serializable -/
def k6 : Class := { plain "java/io/Serializable" (some 0) with
  accessFlags := 1537
  interfaces := #[]
  cf := some (fileOf pool6 2 #[] #[] 1537 4 #[] #[])
  fields := #[]
  methods := #[]
  instanceTypes := #[]
  staticTypes := #[]
  resolved := Array.replicate 8 none
  statics := none }

/-- the primitive byte -/
def k7 : Class := { plain "byte" none with kind := .primitive 'B', accessFlags := 0x411 }
/-- [B -/
def k8 : Class := { plain "[B" (some 0) with kind := .array 7 .byte, interfaces := #[5, 6], accessFlags := 1041 }

/-- the primitive int -/
def k9 : Class := { plain "int" none with kind := .primitive 'I', accessFlags := 0x411 }
/-- [I -/
def k10 : Class := { plain "[I" (some 0) with kind := .array 9 .int, interfaces := #[5, 6], accessFlags := 1041 }

def heap : Heap := #[]
def classes : Array Class := #[k0, k1, k2, k3, k4, k5, k6, k7, k8, k9, k10]
def interned : List (Array UInt16 × Addr) := []
def slotsUsed : Nat := 0
def theMethod : MethodId := ⟨1, 1⟩
def args0 : Array Value := #[.long 5, .long 7]
def aboutOver (below : List Frame) : State where
  vm := { classes := classes, interned := interned.toArray }
  heap := heap
  slotsUsed := slotsUsed
  threads := #[{ frames := .invoking theMethod args0 :: below }]
def below0 : List Frame := [.native { method := ⟨0, 0⟩, args := #[] }]
def about1 : State := aboutOver below0
def p0 : Program := .bare "" "" ""
def e0 : Env := launch0.env 0 0 0
theorem w_frames : about1.frames = Frame.invoking theMethod args0 :: below0 := rfl
set_option maxRecDepth 65536 in
theorem w_args : argsFit about1.vm theMethod args0 = true := by decide +kernel
set_option maxRecDepth 65536 in
theorem w_heap : heapFits about1 = true := by decide +kernel
set_option maxRecDepth 65536 in
theorem w_runnable : about1.curStatus? = some .runnable := by decide +kernel
set_option maxRecDepth 65536 in
theorem w_alone : about1.alone = true := by decide +kernel
set_option maxRecDepth 65536 in
theorem w_named : about1.methodNamed? x = some theMethod := by decide +kernel
set_option maxRecDepth 65536 in
theorem w_hears : about1.hears theMethod below0 = true := by decide +kernel
set_option maxRecDepth 65536 in
theorem w_ripe : about1.ripe theMethod args0 below0 = true := by decide +kernel
theorem w_running : about1.status = .running := rfl
set_option maxRecDepth 65536 in
theorem w_room : about1.hasRoom e0.platform room_1 = true :=
  launch0.hasRoom_least _ room_1 (by decide +kernel) (by decide +kernel) (by decide +kernel) (by decide +kernel) (by decide +kernel) (by decide +kernel)
theorem allAtoms_all (ts : List Jvm.Cond) (a : Array Jvm.Value) (st : Jvm.State) : (allAtoms ts).before a st = ts.all (fun c => c.before a st) := by
  induction ts with
  | nil => rfl
  | cons c t ih =>
    show (Jvm.Cond.and c (allAtoms t)).before a st = _
    rw [Jvm.Cond.before_and, ih, List.all_cons]
def words1 : List Jvm.Cond := Jvm.Cond.code x code maxLocals ret :: tables_1
/-- a 'code' word, met by the world's own term for the bytes: nothing is compared byte by byte -/
theorem code_word {y : MethodName} {bytes : ByteArray} {mx : Nat} {rt : Option FieldType} {a : Array Value} {s : State} {m : MethodId} {meth : Method} {c : Code} (h1 : s.methodNamed? y = some m) (h2 : s.vm.method? m = some meth) (h3 : meth.code = some c) (h4 : c.code = bytes)
    (h5 : (c.maxLocals == mx && c.exceptionTable.isEmpty && decide (c.maxStack ≤ mostOperands) && decide (meth.sig.returnType = rt) && !meth.locks && decide (parseMethodDescriptor y.desc = some meth.sig)) = true) : (Jvm.Cond.code y bytes mx rt).before a s = true := by
  simp only [Bool.and_eq_true, beq_iff_eq, Bool.not_eq_true', decide_eq_true_eq] at h5
  obtain ⟨⟨⟨⟨⟨g1, g2⟩, g3⟩, g4⟩, g5⟩, g6⟩ := h5
  simp [Cond.before, Cond.holds, Cond.value, h1, h2, h3, h4, g1, g2, g3, g4, g5, g6]
def isCode : Jvm.Cond → Bool
  | .code _ _ _ _ => true
  | _ => false
theorem all_split {L : List Jvm.Cond} {P : Jvm.Cond → Bool} (h1 : L.all (fun c => isCode c || P c) = true) (h2 : ∀ c ∈ L.filter isCode, P c = true) : L.all P = true := by
  refine List.all_eq_true.mpr fun c hc => ?_
  have h := List.all_eq_true.mp h1 c hc
  rcases Bool.eq_false_or_eq_true (isCode c) with hi | hi
  · exact h2 c (List.mem_filter.mpr ⟨hc, hi⟩)
  · simpa [hi] using h
set_option maxRecDepth 65536 in
theorem w_c0 : (Jvm.Cond.code x code maxLocals ret).before args0 about1 = true := code_word (m := ⟨1, 1⟩) (meth := k1m1) (c := k1c1) (by decide +kernel) rfl rfl rfl (by decide +kernel)
set_option maxRecDepth 65536 in
theorem w_c1 : (Jvm.Cond.code ({ cls := "com/example/cicada/cicada/store/DueTime", name := "after", desc := "(J)Lcom/example/cicada/cicada/store/DueTime;" } : Jvm.MethodName) prog_13_method_2_code (2 : Nat) (Option.some (Jvm.ClassFile.FieldType.object "com/example/cicada/cicada/store/DueTime"))).before args0 about1 = true := code_word (m := ⟨3, 1⟩) (meth := k3m1) (c := k3c1) (by decide +kernel) rfl rfl rfl (by decide +kernel)
set_option maxRecDepth 65536 in
theorem w_c2 : (Jvm.Cond.code ({ cls := "com/example/cicada/cicada/store/DueTime", name := "<init>", desc := "(JJ)V" } : Jvm.MethodName) prog_13_method_1_code (5 : Nat) (Option.none : Option Jvm.ClassFile.FieldType)).before args0 about1 = true := code_word (m := ⟨3, 0⟩) (meth := k3m0) (c := k3c0) (by decide +kernel) rfl rfl rfl (by decide +kernel)
set_option maxRecDepth 65536 in
theorem w_c3 : (Jvm.Cond.code ({ cls := "java/lang/Record", name := "<init>", desc := "()V" } : Jvm.MethodName) jdk_30_method_1_code (1 : Nat) (Option.none : Option Jvm.ClassFile.FieldType)).before args0 about1 = true := code_word (m := ⟨2, 0⟩) (meth := k2m0) (c := k2c0) (by decide +kernel) rfl rfl rfl (by decide +kernel)
set_option maxRecDepth 65536 in
theorem w_c4 : (Jvm.Cond.code ({ cls := "java/lang/Object", name := "<init>", desc := "()V" } : Jvm.MethodName) object_method_1_code (1 : Nat) (Option.none : Option Jvm.ClassFile.FieldType)).before args0 about1 = true := code_word (m := ⟨0, 0⟩) (meth := k0m0) (c := k0c0) (by decide +kernel) rfl rfl rfl (by decide +kernel)
set_option maxRecDepth 65536 in
theorem w_c5 : (Jvm.Cond.code ({ cls := "com/example/cicada/cicada/store/DueTime", name := "delayMs", desc := "()J" } : Jvm.MethodName) prog_13_method_8_code (1 : Nat) (Option.some Jvm.ClassFile.FieldType.long)).before args0 about1 = true := code_word (m := ⟨3, 3⟩) (meth := k3m3) (c := k3c3) (by decide +kernel) rfl rfl rfl (by decide +kernel)
set_option maxRecDepth 65536 in
theorem w_c6 : (Jvm.Cond.code ({ cls := "com/example/cicada/cicada/store/DueTime", name := "notBefore", desc := "()J" } : Jvm.MethodName) prog_13_method_9_code (1 : Nat) (Option.some Jvm.ClassFile.FieldType.long)).before args0 about1 = true := code_word (m := ⟨3, 4⟩) (meth := k3m4) (c := k3c4) (by decide +kernel) rfl rfl rfl (by decide +kernel)
set_option maxRecDepth 65536 in
theorem w_c7 : (Jvm.Cond.code ({ cls := "com/example/cicada/cicada/store/DueTime", name := "dueAt", desc := "(J)J" } : Jvm.MethodName) prog_13_method_4_code (3 : Nat) (Option.some Jvm.ClassFile.FieldType.long)).before args0 about1 = true := code_word (m := ⟨3, 2⟩) (meth := k3m2) (c := k3c2) (by decide +kernel) rfl rfl rfl (by decide +kernel)
set_option maxRecDepth 65536 in
theorem w_c8 : (Jvm.Cond.code ({ cls := "java/lang/Math", name := "max", desc := "(JJ)J" } : Jvm.MethodName) jdk_29_method_66_code (4 : Nat) (Option.some Jvm.ClassFile.FieldType.long)).before args0 about1 = true := code_word (m := ⟨4, 1⟩) (meth := k4m1) (c := k4c1) (by decide +kernel) rfl rfl rfl (by decide +kernel)
def codes1 : List Jvm.Cond := [Jvm.Cond.code x code maxLocals ret, Jvm.Cond.code ({ cls := "com/example/cicada/cicada/store/DueTime", name := "after", desc := "(J)Lcom/example/cicada/cicada/store/DueTime;" } : Jvm.MethodName) prog_13_method_2_code (2 : Nat) (Option.some (Jvm.ClassFile.FieldType.object "com/example/cicada/cicada/store/DueTime")), Jvm.Cond.code ({ cls := "com/example/cicada/cicada/store/DueTime", name := "<init>", desc := "(JJ)V" } : Jvm.MethodName) prog_13_method_1_code (5 : Nat) (Option.none : Option Jvm.ClassFile.FieldType), Jvm.Cond.code ({ cls := "java/lang/Record", name := "<init>", desc := "()V" } : Jvm.MethodName) jdk_30_method_1_code (1 : Nat) (Option.none : Option Jvm.ClassFile.FieldType), Jvm.Cond.code ({ cls := "java/lang/Object", name := "<init>", desc := "()V" } : Jvm.MethodName) object_method_1_code (1 : Nat) (Option.none : Option Jvm.ClassFile.FieldType), Jvm.Cond.code ({ cls := "com/example/cicada/cicada/store/DueTime", name := "delayMs", desc := "()J" } : Jvm.MethodName) prog_13_method_8_code (1 : Nat) (Option.some Jvm.ClassFile.FieldType.long), Jvm.Cond.code ({ cls := "com/example/cicada/cicada/store/DueTime", name := "notBefore", desc := "()J" } : Jvm.MethodName) prog_13_method_9_code (1 : Nat) (Option.some Jvm.ClassFile.FieldType.long), Jvm.Cond.code ({ cls := "com/example/cicada/cicada/store/DueTime", name := "dueAt", desc := "(J)J" } : Jvm.MethodName) prog_13_method_4_code (3 : Nat) (Option.some Jvm.ClassFile.FieldType.long), Jvm.Cond.code ({ cls := "java/lang/Math", name := "max", desc := "(JJ)J" } : Jvm.MethodName) jdk_29_method_66_code (4 : Nat) (Option.some Jvm.ClassFile.FieldType.long)]
set_option maxRecDepth 65536 in
theorem codes_eq : words1.filter isCode = codes1 := rfl
theorem w_codes : ∀ c ∈ words1.filter isCode, c.before args0 about1 = true := by
  rw [codes_eq]
  intro c hc
  simp only [codes1, List.mem_cons, List.not_mem_nil, or_false] at hc
  rcases hc with rfl | rfl | rfl | rfl | rfl | rfl | rfl | rfl | rfl
  · exact w_c0
  · exact w_c1
  · exact w_c2
  · exact w_c3
  · exact w_c4
  · exact w_c5
  · exact w_c6
  · exact w_c7
  · exact w_c8
set_option maxRecDepth 65536 in
theorem w_t1 : (words1.take 24).all (fun c => isCode c || c.before args0 about1) = true := by decide +kernel
set_option maxRecDepth 65536 in
theorem w_t2 : (words1.drop 24).all (fun c => isCode c || c.before args0 about1) = true := by decide +kernel
theorem w_tables : (allAtoms (Jvm.Cond.code x code maxLocals ret :: tables_1)).before args0 about1 = true := by
  rw [allAtoms_all]
  show words1.all (fun c => c.before args0 about1) = true
  refine all_split ?_ w_codes
  rw [← List.take_append_drop 24 words1, List.all_append, w_t1, w_t2]
  rfl
set_option maxRecDepth 65536 in
theorem w_case : (Jvm.Cond.and given_1 narrow_1).before args0 about1 = true := by decide +kernel
theorem w_applies : (headSpec (Jvm.Cond.code x code maxLocals ret :: tables_1) room_1).applies x e0.platform about1 = true :=
  (Spec.applies_iff w_frames).mpr ⟨w_running, w_runnable, w_alone, w_named, w_hears, w_ripe, w_room, w_tables⟩
theorem atStart : AtStart classFile x code maxLocals ret World_1 tables_1 room_1 Calls_1 rest_1 Pre_1 launch0 p0 e0 about1 theMethod args0 below0 :=
  ⟨lists_1, trivial, launch0.admits_env _ _ _, launch0.least_env, fairChoices_fair.cas, fairChoices_fair.clock, w_frames, w_args, w_heap, w_applies, trivial, trivial, w_case⟩
end start1
theorem witness_1 : WitnessClaimed_1 := ⟨start1.p0, start1.e0, start1.about1, start1.theMethod, start1.args0, start1.below0, start1.atStart⟩
end Jvm.Pilot.@@N@@
