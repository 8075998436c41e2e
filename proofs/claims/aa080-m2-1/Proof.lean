import JvmDerived
import JvmDerived.Pilot.@@N@@Statement
import JvmDerived.Pilot.@@N@@Code
set_option linter.unusedVariables false
set_option linter.unusedSimpArgs false
namespace Jvm.Pilot.@@N@@
open Jvm Jvm.ClassFile Sem Op Lib Jvm.Free Jvm.Stand Jvm.LawKit Jvm.RoadKit Bundle Jvm.Pilot.@@N@@.Jvm.D
theorem own_go {tb : Tables} {e : Env} {below : List Frame} {A B : State} {P : State → Outcome → Prop} (h : ∀ t, Steps tb e below B t → Steps tb e below A t) (k : ∃ s₂ o, Steps tb e below B s₂ ∧ P s₂ o) : ∃ s₂ o, Steps tb e below A s₂ ∧ P s₂ o := by
  obtain ⟨s₂, o, h1, h2⟩ := k; exact ⟨s₂, o, h _ h1, h2⟩
theorem d1_0 : decode prog_6_method_5_code 0 = .ok (.lload_n 0, 1) := by decide +kernel
theorem d1_1 : decode prog_6_method_5_code 1 = .ok (.ldc2_w 15, 3) := by decide +kernel
theorem d1_4 : decode prog_6_method_5_code 4 = .ok (.lcmp, 1) := by decide +kernel
theorem d1_5 : decode prog_6_method_5_code 5 = .ok (.ifCond .le 6, 3) := by decide +kernel
theorem d1_8 : decode prog_6_method_5_code 8 = .ok (.ldc 17, 2) := by decide +kernel
theorem d1_10 : decode prog_6_method_5_code 10 = .ok (.ireturn, 1) := by decide +kernel
theorem d1_11 : decode prog_6_method_5_code 11 = .ok (.lload_n 0, 1) := by decide +kernel
theorem d1_12 : decode prog_6_method_5_code 12 = .ok (.ldc2_w 18, 3) := by decide +kernel
theorem d1_15 : decode prog_6_method_5_code 15 = .ok (.lcmp, 1) := by decide +kernel
theorem d1_16 : decode prog_6_method_5_code 16 = .ok (.ifCond .ge 6, 3) := by decide +kernel
theorem d1_19 : decode prog_6_method_5_code 19 = .ok (.ldc 20, 2) := by decide +kernel
theorem d1_21 : decode prog_6_method_5_code 21 = .ok (.ireturn, 1) := by decide +kernel
theorem d1_22 : decode prog_6_method_5_code 22 = .ok (.lload_n 0, 1) := by decide +kernel
theorem d1_23 : decode prog_6_method_5_code 23 = .ok (.l2i, 1) := by decide +kernel
theorem d1_24 : decode prog_6_method_5_code 24 = .ok (.ireturn, 1) := by decide +kernel
theorem pn_0 : plainName "com/example/mullion/mullion/geom/Saturating" = true := by first | (simp [plainName, overriddenIn]; done) | decide +kernel
theorem d2_0 : decode method_2_code 0 = .ok (.iload_n 2, 1) := by decide +kernel
theorem d2_1 : decode method_2_code 1 = .ok (.i2l, 1) := by decide +kernel
theorem d2_2 : decode method_2_code 2 = .ok (.lstore_n 3, 1) := by decide +kernel
theorem d2_3 : decode method_2_code 3 = .ok (.lload_n 0, 1) := by decide +kernel
theorem d2_4 : decode method_2_code 4 = .ok (.ldc2_w 9, 3) := by decide +kernel
theorem d2_7 : decode method_2_code 7 = .ok (.lcmp, 1) := by decide +kernel
theorem d2_8 : decode method_2_code 8 = .ok (.ifCond .lt 23, 3) := by decide +kernel
theorem d2_31 : decode method_2_code 31 = .ok (.lload_n 0, 1) := by decide +kernel
theorem d2_32 : decode method_2_code 32 = .ok (.ldc2_w 11, 3) := by decide +kernel
theorem d2_35 : decode method_2_code 35 = .ok (.lcmp, 1) := by decide +kernel
theorem d2_36 : decode method_2_code 36 = .ok (.ifCond .le 15, 3) := by decide +kernel
theorem d2_39 : decode method_2_code 39 = .ok (.iload_n 2, 1) := by decide +kernel
theorem d2_40 : decode method_2_code 40 = .ok (.ldc 13, 2) := by decide +kernel
theorem d2_42 : decode method_2_code 42 = .ok (.if_icmp .ne 7, 3) := by decide +kernel
theorem d2_45 : decode method_2_code 45 = .ok (.iconst 1, 1) := by decide +kernel
theorem d2_46 : decode method_2_code 46 = .ok (.goto 4, 3) := by decide +kernel
theorem d2_50 : decode method_2_code 50 = .ok (.ireturn, 1) := by decide +kernel
theorem d2_49 : decode method_2_code 49 = .ok (.iconst 0, 1) := by decide +kernel
theorem d2_51 : decode method_2_code 51 = .ok (.iload_n 2, 1) := by decide +kernel
theorem d2_52 : decode method_2_code 52 = .ok (.ldc 14, 2) := by decide +kernel
theorem d2_54 : decode method_2_code 54 = .ok (.if_icmp .ne 7, 3) := by decide +kernel
theorem d2_57 : decode method_2_code 57 = .ok (.iconst 1, 1) := by decide +kernel
theorem d2_58 : decode method_2_code 58 = .ok (.goto 4, 3) := by decide +kernel
theorem d2_62 : decode method_2_code 62 = .ok (.ireturn, 1) := by decide +kernel
theorem d2_61 : decode method_2_code 61 = .ok (.iconst 0, 1) := by decide +kernel
theorem d2_11 : decode method_2_code 11 = .ok (.lload_n 0, 1) := by decide +kernel
theorem d2_12 : decode method_2_code 12 = .ok (.ldc2_w 11, 3) := by decide +kernel
theorem d2_15 : decode method_2_code 15 = .ok (.lcmp, 1) := by decide +kernel
theorem d2_16 : decode method_2_code 16 = .ok (.ifCond .gt 15, 3) := by decide +kernel
theorem d2_19 : decode method_2_code 19 = .ok (.lload_n 3, 1) := by decide +kernel
theorem d2_20 : decode method_2_code 20 = .ok (.lload_n 0, 1) := by decide +kernel
theorem d2_21 : decode method_2_code 21 = .ok (.lcmp, 1) := by decide +kernel
theorem d2_22 : decode method_2_code 22 = .ok (.ifCond .ne 7, 3) := by decide +kernel
theorem d2_25 : decode method_2_code 25 = .ok (.iconst 1, 1) := by decide +kernel
theorem d2_26 : decode method_2_code 26 = .ok (.goto 4, 3) := by decide +kernel
theorem d2_30 : decode method_2_code 30 = .ok (.ireturn, 1) := by decide +kernel
theorem d2_29 : decode method_2_code 29 = .ok (.iconst 0, 1) := by decide +kernel
theorem pn_1 : plainName "com/example/mullion/mullion/geom/SaturatingClampPinLaw" = true := by first | (simp [plainName, overriddenIn]; done) | decide +kernel
theorem pd_0 : parseMethodDescriptor "(J)I" = some ⟨[.long], some .int⟩ := by decide +kernel
theorem pd_1 : parseMethodDescriptor "(JI)Z" = some ⟨[.long, .int], some .boolean⟩ := by decide +kernel
def frm1 (q1 : Int64) : Int32 := (if (2147483647 : Int64) < q1 then (2147483647 : Int32) else (if q1 < (-2147483648 : Int64) then (-2147483648 : Int32) else (q1.toInt32)))
def Qrm1 (Z : State) (q1 : Int64) (h0 : Heap) (n0 : Nat) (v : Option Value) (h : Heap) (L : List Loc) : Prop := v = some (.int (frm1 q1)) ∧ Fr n0 L ∧ h = h0
theorem efrm1 (m : MethodId) (x0 : Int64) : entryFrame m #[(.long x0)] 2 = mkF m 0 #[.val (.long x0), .second] [] := by first | (simp [entryFrame, mkF, argsToLocals, Value.category]; done) | rfl
set_option maxRecDepth 65536 in
set_option maxHeartbeats 40000000 in
theorem rm1 (l : Launch) (Z : State) (a0 : Array Value) (hw : ∀ d ∈ tables_1, d.before a0 Z = true) (ws : List Jvm.Cond) (q1 : Int64) (h0 : Heap) (n0 : Nat) (Z0 : n0 ≤ h0.size)  :
    MetFree l (⟨"com/example/mullion/mullion/geom/Saturating", "clamp", "(J)I"⟩ : MethodName) (head1 (Jvm.Cond.code (⟨"com/example/mullion/mullion/geom/Saturating", "clamp", "(J)I"⟩ : MethodName) prog_6_method_5_code 2 (some .int) :: ws) ({ frames := 0, cells := 0, slots := 0, locals := 0 } : Room)) (fun a U => a = #[(.long q1)] ∧ Z.Warmed39 U.vm ∧ U.heap = h0) (fun _ _ _ _ _ => True) (fun _ U o U' => ∃ v L, o = .returned v ∧ Qrm1 Z q1 h0 n0 v U'.heap L ∧ FrameEnd U o U' L ({ frames := 0, cells := 0, slots := 0, locals := 0 } : Room).cells ({ frames := 0, cells := 0, slots := 0, locals := 0 } : Room).slots) := by
  refine MetFree.of_bodySF (plainFor_of_name pn_0) hisR ?_
  intro p e s m args below meth c s₁ Bd hml0 hP hK
  obtain ⟨rfl, hZ, hh⟩ := hP
  have hx := Bd.exec
  have hby := Bd.bytes
  have hml : c.maxLocals = 2 := hml0
  have hown : s.vm.findClass "com/example/mullion/mullion/geom/Saturating" = some m.cls := findClass_of_methodNamed Bd.named
  have hnm := (name_of_methodNamed Bd.named Bd.method).1
  have X0 : Stand p l e ({ frames := 0, cells := 0, slots := 0, locals := 0 } : Room) s m #[(.long q1)] below meth c s₁ [] 0 0 := Stand.of_body Bd
  have e0 : s₁.heap = h0 := by rw [← hh, Bd.state]; rfl
  have N0 := Fr.nil n0
  have K0 : Keep h0 h0 [] := Keep.refl h0 _
  refine own_go (B := s₁.setTop (mkF m 0 #[.val (.long q1), .second] [])) (fun t k => castTop (efrm1 m q1) k) ?_
  refine own_go (A := s₁.setTop (mkF m 0 #[.val (.long q1), .second] [])) (B := s₁.setTop (mkF m 5 #[.val (.long q1), .second] [(.int (lcmpW q1 (2147483647 : Int64)))])) (fun t k => ?_) ?_
  · show Steps p.tables e below (s₁.setTop (mkF m 0 #[.val (.long q1), .second] [])) _
    refine XS.lloadN X0.here hx rfl (hb hby d1_0) rfl ?_
    show Steps p.tables e below (s₁.setTop (mkF m 1 #[.val (.long q1), .second] [(.long q1)])) _
    refine X0.ldc2Long hx hown (mvT hZ (hw _ (List.mem_of_getElem? (i := 4) rfl))) (g := (mkF m 1 #[.val (.long q1), .second] [(.long q1)])) rfl (hb hby d1_1) _ ?_
    show Steps p.tables e below (s₁.setTop (mkF m 4 #[.val (.long q1), .second] [(.long (2147483647 : Int64)), (.long q1)])) _
    refine XS.lcmp X0.here hx rfl (hb hby d1_4) rfl ?_
    exact k
  by_cases hc5_1 : (2147483647 : Int64) < q1
  · refine own_go (A := s₁.setTop (mkF m 5 #[.val (.long q1), .second] [(.int (lcmpW q1 (2147483647 : Int64)))])) (B := s₁.setTop (mkF m 8 #[.val (.long q1), .second] [])) (fun t k => ?_) ?_
    · show Steps p.tables e below (s₁.setTop (mkF m 5 #[.val (.long q1), .second] [(.int (lcmpW q1 (2147483647 : Int64)))])) _
      refine XS.ifNo X0.here hx rfl (hb hby d1_5) rfl ((if0 _ _).trans (tlt ((lw_gt _ _).mpr hc5_1)).2.2.2) ?_
      exact k
    refine own_go (A := s₁.setTop (mkF m 8 #[.val (.long q1), .second] [])) (B := s₁.setTop (mkF m 10 #[.val (.long q1), .second] [(.int (2147483647 : Int32))])) (fun t k => ?_) ?_
    · show Steps p.tables e below (s₁.setTop (mkF m 8 #[.val (.long q1), .second] [])) _
      refine X0.ldcInt hx hown (mvT hZ (hw _ (List.mem_of_getElem? (i := 14) rfl))) (g := (mkF m 8 #[.val (.long q1), .second] [])) rfl (hb hby d1_8) _ ?_
      exact k
    obtain ⟨fs, hr, hrun, hended, hW, hsame⟩ := X0.leave (v := some (.int (2147483647 : Int32))) (fun h => by rw [Bd.returns] at h; cases h)
    refine ⟨_, _, ?_, hrun, hended, _, _, rfl, ?_, ⟨_, rfl⟩, hW, hsame.mono (by decide) (by decide)⟩
    · show Steps p.tables e below (s₁.setTop (mkF m 10 #[.val (.long q1), .second] [(.int (2147483647 : Int32))])) _
      exact retOut X0 hx Bd.returns rfl (Or.inl ⟨rfl, Or.inl rfl, _, rfl⟩) (hb hby d1_10) hr
    · show Qrm1 Z q1 h0 n0 _ s₁.heap _
      rw [e0]
      exact ⟨(by simp only [frm1, if_pos hc5_1]), N0, rfl⟩
  · refine own_go (A := s₁.setTop (mkF m 5 #[.val (.long q1), .second] [(.int (lcmpW q1 (2147483647 : Int64)))])) (B := s₁.setTop (mkF m 11 #[.val (.long q1), .second] [])) (fun t k => ?_) ?_
    · show Steps p.tables e below (s₁.setTop (mkF m 5 #[.val (.long q1), .second] [(.int (lcmpW q1 (2147483647 : Int64)))])) _
      refine XS.ifYes X0.here hx rfl (pc0 := 5) (pc' := 11) rfl (hb hby d1_5) rfl ((if0 _ _).trans (flt (mt (lw_gt _ _).mp hc5_1)).2.2.2) (by decide) (by decide) ?_
      exact k
    refine own_go (A := s₁.setTop (mkF m 11 #[.val (.long q1), .second] [])) (B := s₁.setTop (mkF m 16 #[.val (.long q1), .second] [(.int (lcmpW q1 (-2147483648 : Int64)))])) (fun t k => ?_) ?_
    · show Steps p.tables e below (s₁.setTop (mkF m 11 #[.val (.long q1), .second] [])) _
      refine XS.lloadN X0.here hx rfl (hb hby d1_11) rfl ?_
      show Steps p.tables e below (s₁.setTop (mkF m 12 #[.val (.long q1), .second] [(.long q1)])) _
      refine X0.ldc2Long hx hown (mvT hZ (hw _ (List.mem_of_getElem? (i := 5) rfl))) (g := (mkF m 12 #[.val (.long q1), .second] [(.long q1)])) rfl (hb hby d1_12) _ ?_
      show Steps p.tables e below (s₁.setTop (mkF m 15 #[.val (.long q1), .second] [(.long (-2147483648 : Int64)), (.long q1)])) _
      refine XS.lcmp X0.here hx rfl (hb hby d1_15) rfl ?_
      exact k
    by_cases hc16_2 : q1 < (-2147483648 : Int64)
    · refine own_go (A := s₁.setTop (mkF m 16 #[.val (.long q1), .second] [(.int (lcmpW q1 (-2147483648 : Int64)))])) (B := s₁.setTop (mkF m 19 #[.val (.long q1), .second] [])) (fun t k => ?_) ?_
      · show Steps p.tables e below (s₁.setTop (mkF m 16 #[.val (.long q1), .second] [(.int (lcmpW q1 (-2147483648 : Int64)))])) _
        refine XS.ifNo X0.here hx rfl (hb hby d1_16) rfl ((if0 _ _).trans (tlt ((lw_lt _ _).mpr hc16_2)).2.1) ?_
        exact k
      refine own_go (A := s₁.setTop (mkF m 19 #[.val (.long q1), .second] [])) (B := s₁.setTop (mkF m 21 #[.val (.long q1), .second] [(.int (-2147483648 : Int32))])) (fun t k => ?_) ?_
      · show Steps p.tables e below (s₁.setTop (mkF m 19 #[.val (.long q1), .second] [])) _
        refine X0.ldcInt hx hown (mvT hZ (hw _ (List.mem_of_getElem? (i := 12) rfl))) (g := (mkF m 19 #[.val (.long q1), .second] [])) rfl (hb hby d1_19) _ ?_
        exact k
      obtain ⟨fs, hr, hrun, hended, hW, hsame⟩ := X0.leave (v := some (.int (-2147483648 : Int32))) (fun h => by rw [Bd.returns] at h; cases h)
      refine ⟨_, _, ?_, hrun, hended, _, _, rfl, ?_, ⟨_, rfl⟩, hW, hsame.mono (by decide) (by decide)⟩
      · show Steps p.tables e below (s₁.setTop (mkF m 21 #[.val (.long q1), .second] [(.int (-2147483648 : Int32))])) _
        exact retOut X0 hx Bd.returns rfl (Or.inl ⟨rfl, Or.inl rfl, _, rfl⟩) (hb hby d1_21) hr
      · show Qrm1 Z q1 h0 n0 _ s₁.heap _
        rw [e0]
        exact ⟨(by simp only [frm1, if_neg hc5_1, if_pos hc16_2]), N0, rfl⟩
    · refine own_go (A := s₁.setTop (mkF m 16 #[.val (.long q1), .second] [(.int (lcmpW q1 (-2147483648 : Int64)))])) (B := s₁.setTop (mkF m 22 #[.val (.long q1), .second] [])) (fun t k => ?_) ?_
      · show Steps p.tables e below (s₁.setTop (mkF m 16 #[.val (.long q1), .second] [(.int (lcmpW q1 (-2147483648 : Int64)))])) _
        refine XS.ifYes X0.here hx rfl (pc0 := 16) (pc' := 22) rfl (hb hby d1_16) rfl ((if0 _ _).trans (flt (mt (lw_lt _ _).mp hc16_2)).2.1) (by decide) (by decide) ?_
        exact k
      refine own_go (A := s₁.setTop (mkF m 22 #[.val (.long q1), .second] [])) (B := s₁.setTop (mkF m 24 #[.val (.long q1), .second] [(.int (q1.toInt32))])) (fun t k => ?_) ?_
      · show Steps p.tables e below (s₁.setTop (mkF m 22 #[.val (.long q1), .second] [])) _
        refine XS.lloadN X0.here hx rfl (hb hby d1_22) rfl ?_
        show Steps p.tables e below (s₁.setTop (mkF m 23 #[.val (.long q1), .second] [(.long q1)])) _
        refine XS.l2i X0.here hx rfl (hb hby d1_23) rfl ?_
        exact k
      obtain ⟨fs, hr, hrun, hended, hW, hsame⟩ := X0.leave (v := some (.int (q1.toInt32))) (fun h => by rw [Bd.returns] at h; cases h)
      refine ⟨_, _, ?_, hrun, hended, _, _, rfl, ?_, ⟨_, rfl⟩, hW, hsame.mono (by decide) (by decide)⟩
      · show Steps p.tables e below (s₁.setTop (mkF m 24 #[.val (.long q1), .second] [(.int (q1.toInt32))])) _
        exact retOut X0 hx Bd.returns rfl (Or.inl ⟨rfl, Or.inl rfl, _, rfl⟩) (hb hby d1_24) hr
      · show Qrm1 Z q1 h0 n0 _ s₁.heap _
        rw [e0]
        exact ⟨(by simp only [frm1, if_neg hc5_1, if_neg hc16_2]), N0, rfl⟩
def frm2 (q1 : Int64) (p2 : Int32) : Int32 := (if q1 < (-2147483648 : Int64) then (if (2147483647 : Int64) < q1 then (if p2 = (2147483647 : Int32) then (1 : Int32) else (0 : Int32)) else (if p2 = (-2147483648 : Int32) then (1 : Int32) else (0 : Int32))) else (if (2147483647 : Int64) < q1 then (if p2 = (2147483647 : Int32) then (1 : Int32) else (0 : Int32)) else (if (p2.toInt64) = q1 then (1 : Int32) else (0 : Int32))))
def Qrm2 (Z : State) (q1 : Int64) (p2 : Int32) (h0 : Heap) (n0 : Nat) (v : Option Value) (h : Heap) (L : List Loc) : Prop := v = some (.int (frm2 q1 p2)) ∧ Fr n0 L ∧ h = h0
theorem efrm2 (m : MethodId) (x0 : Int64) (x1 : Int32) : entryFrame m #[(.long x0), (.int x1)] 5 = mkF m 0 #[.val (.long x0), .second, .val (.int x1), .unset, .unset] [] := by first | (simp [entryFrame, mkF, argsToLocals, Value.category]; done) | rfl
set_option maxRecDepth 65536 in
set_option maxHeartbeats 40000000 in
theorem rm2 (l : Launch) (Z : State) (a0 : Array Value) (hw : ∀ d ∈ tables_1, d.before a0 Z = true) (ws : List Jvm.Cond) (q1 : Int64) (p2 : Int32) (h0 : Heap) (n0 : Nat) (Z0 : n0 ≤ h0.size)  :
    MetFree l (⟨"com/example/mullion/mullion/geom/SaturatingClampPinLaw", "pinned", "(JI)Z"⟩ : MethodName) (head1 (Jvm.Cond.code (⟨"com/example/mullion/mullion/geom/SaturatingClampPinLaw", "pinned", "(JI)Z"⟩ : MethodName) method_2_code 5 (some .boolean) :: ws) ({ frames := 0, cells := 0, slots := 0, locals := 0 } : Room)) (fun a U => a = #[(.long q1), (.int p2)] ∧ Z.Warmed39 U.vm ∧ U.heap = h0) (fun _ _ _ _ _ => True) (fun _ U o U' => ∃ v L, o = .returned v ∧ Qrm2 Z q1 p2 h0 n0 v U'.heap L ∧ FrameEnd U o U' L ({ frames := 0, cells := 0, slots := 0, locals := 0 } : Room).cells ({ frames := 0, cells := 0, slots := 0, locals := 0 } : Room).slots) := by
  refine MetFree.of_bodySF (plainFor_of_name pn_1) hisR ?_
  intro p e s m args below meth c s₁ Bd hml0 hP hK
  obtain ⟨rfl, hZ, hh⟩ := hP
  have hx := Bd.exec
  have hby := Bd.bytes
  have hml : c.maxLocals = 5 := hml0
  have hown : s.vm.findClass "com/example/mullion/mullion/geom/SaturatingClampPinLaw" = some m.cls := findClass_of_methodNamed Bd.named
  have hnm := (name_of_methodNamed Bd.named Bd.method).1
  have X0 : Stand p l e ({ frames := 0, cells := 0, slots := 0, locals := 0 } : Room) s m #[(.long q1), (.int p2)] below meth c s₁ [] 0 0 := Stand.of_body Bd
  have e0 : s₁.heap = h0 := by rw [← hh, Bd.state]; rfl
  have N0 := Fr.nil n0
  have K0 : Keep h0 h0 [] := Keep.refl h0 _
  refine own_go (B := s₁.setTop (mkF m 0 #[.val (.long q1), .second, .val (.int p2), .unset, .unset] [])) (fun t k => castTop (efrm2 m q1 p2) k) ?_
  refine own_go (A := s₁.setTop (mkF m 0 #[.val (.long q1), .second, .val (.int p2), .unset, .unset] [])) (B := s₁.setTop (mkF m 8 #[.val (.long q1), .second, .val (.int p2), .val (.long (p2.toInt64)), .second] [(.int (lcmpW q1 (-2147483648 : Int64)))])) (fun t k => ?_) ?_
  · show Steps p.tables e below (s₁.setTop (mkF m 0 #[.val (.long q1), .second, .val (.int p2), .unset, .unset] [])) _
    refine XS.iloadN X0.here hx rfl (hb hby d2_0) rfl ?_
    show Steps p.tables e below (s₁.setTop (mkF m 1 #[.val (.long q1), .second, .val (.int p2), .unset, .unset] [(.int p2)])) _
    refine XS.i2l X0.here hx rfl (hb hby d2_1) rfl ?_
    show Steps p.tables e below (s₁.setTop (mkF m 2 #[.val (.long q1), .second, .val (.int p2), .unset, .unset] [(.long (p2.toInt64))])) _
    refine XS.lstoreN X0.here hx rfl (hb hby d2_2) rfl (l' := #[.val (.long q1), .second, .val (.int p2), .val (.long (p2.toInt64)), .second]) rfl ?_
    show Steps p.tables e below (s₁.setTop (mkF m 3 #[.val (.long q1), .second, .val (.int p2), .val (.long (p2.toInt64)), .second] [])) _
    refine XS.lloadN X0.here hx rfl (hb hby d2_3) rfl ?_
    show Steps p.tables e below (s₁.setTop (mkF m 4 #[.val (.long q1), .second, .val (.int p2), .val (.long (p2.toInt64)), .second] [(.long q1)])) _
    refine X0.ldc2Long hx hown (mvT hZ (hw _ (List.mem_of_getElem? (i := 10) rfl))) (g := (mkF m 4 #[.val (.long q1), .second, .val (.int p2), .val (.long (p2.toInt64)), .second] [(.long q1)])) rfl (hb hby d2_4) _ ?_
    show Steps p.tables e below (s₁.setTop (mkF m 7 #[.val (.long q1), .second, .val (.int p2), .val (.long (p2.toInt64)), .second] [(.long (-2147483648 : Int64)), (.long q1)])) _
    refine XS.lcmp X0.here hx rfl (hb hby d2_7) rfl ?_
    exact k
  by_cases hc8_3 : q1 < (-2147483648 : Int64)
  · refine own_go (A := s₁.setTop (mkF m 8 #[.val (.long q1), .second, .val (.int p2), .val (.long (p2.toInt64)), .second] [(.int (lcmpW q1 (-2147483648 : Int64)))])) (B := s₁.setTop (mkF m 31 #[.val (.long q1), .second, .val (.int p2), .val (.long (p2.toInt64)), .second] [])) (fun t k => ?_) ?_
    · show Steps p.tables e below (s₁.setTop (mkF m 8 #[.val (.long q1), .second, .val (.int p2), .val (.long (p2.toInt64)), .second] [(.int (lcmpW q1 (-2147483648 : Int64)))])) _
      refine XS.ifYes X0.here hx rfl (pc0 := 8) (pc' := 31) rfl (hb hby d2_8) rfl ((if0 _ _).trans (tlt ((lw_lt _ _).mpr hc8_3)).1) (by decide) (by decide) ?_
      exact k
    refine own_go (A := s₁.setTop (mkF m 31 #[.val (.long q1), .second, .val (.int p2), .val (.long (p2.toInt64)), .second] [])) (B := s₁.setTop (mkF m 36 #[.val (.long q1), .second, .val (.int p2), .val (.long (p2.toInt64)), .second] [(.int (lcmpW q1 (2147483647 : Int64)))])) (fun t k => ?_) ?_
    · show Steps p.tables e below (s₁.setTop (mkF m 31 #[.val (.long q1), .second, .val (.int p2), .val (.long (p2.toInt64)), .second] [])) _
      refine XS.lloadN X0.here hx rfl (hb hby d2_31) rfl ?_
      show Steps p.tables e below (s₁.setTop (mkF m 32 #[.val (.long q1), .second, .val (.int p2), .val (.long (p2.toInt64)), .second] [(.long q1)])) _
      refine X0.ldc2Long hx hown (mvT hZ (hw _ (List.mem_of_getElem? (i := 11) rfl))) (g := (mkF m 32 #[.val (.long q1), .second, .val (.int p2), .val (.long (p2.toInt64)), .second] [(.long q1)])) rfl (hb hby d2_32) _ ?_
      show Steps p.tables e below (s₁.setTop (mkF m 35 #[.val (.long q1), .second, .val (.int p2), .val (.long (p2.toInt64)), .second] [(.long (2147483647 : Int64)), (.long q1)])) _
      refine XS.lcmp X0.here hx rfl (hb hby d2_35) rfl ?_
      exact k
    by_cases hc36_4 : (2147483647 : Int64) < q1
    · refine own_go (A := s₁.setTop (mkF m 36 #[.val (.long q1), .second, .val (.int p2), .val (.long (p2.toInt64)), .second] [(.int (lcmpW q1 (2147483647 : Int64)))])) (B := s₁.setTop (mkF m 39 #[.val (.long q1), .second, .val (.int p2), .val (.long (p2.toInt64)), .second] [])) (fun t k => ?_) ?_
      · show Steps p.tables e below (s₁.setTop (mkF m 36 #[.val (.long q1), .second, .val (.int p2), .val (.long (p2.toInt64)), .second] [(.int (lcmpW q1 (2147483647 : Int64)))])) _
        refine XS.ifNo X0.here hx rfl (hb hby d2_36) rfl ((if0 _ _).trans (tlt ((lw_gt _ _).mpr hc36_4)).2.2.2) ?_
        exact k
      refine own_go (A := s₁.setTop (mkF m 39 #[.val (.long q1), .second, .val (.int p2), .val (.long (p2.toInt64)), .second] [])) (B := s₁.setTop (mkF m 42 #[.val (.long q1), .second, .val (.int p2), .val (.long (p2.toInt64)), .second] [(.int (2147483647 : Int32)), (.int p2)])) (fun t k => ?_) ?_
      · show Steps p.tables e below (s₁.setTop (mkF m 39 #[.val (.long q1), .second, .val (.int p2), .val (.long (p2.toInt64)), .second] [])) _
        refine XS.iloadN X0.here hx rfl (hb hby d2_39) rfl ?_
        show Steps p.tables e below (s₁.setTop (mkF m 40 #[.val (.long q1), .second, .val (.int p2), .val (.long (p2.toInt64)), .second] [(.int p2)])) _
        refine X0.ldcInt hx hown (mvT hZ (hw _ (List.mem_of_getElem? (i := 15) rfl))) (g := (mkF m 40 #[.val (.long q1), .second, .val (.int p2), .val (.long (p2.toInt64)), .second] [(.int p2)])) rfl (hb hby d2_40) _ ?_
        exact k
      by_cases hc42_5 : p2 = (2147483647 : Int32)
      · refine own_go (A := s₁.setTop (mkF m 42 #[.val (.long q1), .second, .val (.int p2), .val (.long (p2.toInt64)), .second] [(.int (2147483647 : Int32)), (.int p2)])) (B := s₁.setTop (mkF m 45 #[.val (.long q1), .second, .val (.int p2), .val (.long (p2.toInt64)), .second] [])) (fun t k => ?_) ?_
        · show Steps p.tables e below (s₁.setTop (mkF m 42 #[.val (.long q1), .second, .val (.int p2), .val (.long (p2.toInt64)), .second] [(.int (2147483647 : Int32)), (.int p2)])) _
          refine XS.icmpNo X0.here hx rfl (hb hby d2_42) rfl (teq hc42_5).2 ?_
          exact k
        refine own_go (A := s₁.setTop (mkF m 45 #[.val (.long q1), .second, .val (.int p2), .val (.long (p2.toInt64)), .second] [])) (B := s₁.setTop (mkF m 50 #[.val (.long q1), .second, .val (.int p2), .val (.long (p2.toInt64)), .second] [(.int (1 : Int32))])) (fun t k => ?_) ?_
        · show Steps p.tables e below (s₁.setTop (mkF m 45 #[.val (.long q1), .second, .val (.int p2), .val (.long (p2.toInt64)), .second] [])) _
          refine XS.iconst X0.here hx rfl (hb hby d2_45) ?_
          show Steps p.tables e below (s₁.setTop (mkF m 46 #[.val (.long q1), .second, .val (.int p2), .val (.long (p2.toInt64)), .second] [(.int (1 : Int32))])) _
          refine XS.goto X0.here hx rfl (pc0 := 46) (pc' := 50) rfl (hb hby d2_46) (by decide) (by decide) ?_
          exact k
        obtain ⟨fs, hr, hrun, hended, hW, hsame⟩ := X0.leave (v := some (.int (1 : Int32))) (fun h => by rw [Bd.returns] at h; cases h)
        refine ⟨_, _, ?_, hrun, hended, _, _, rfl, ?_, ⟨_, rfl⟩, hW, hsame.mono (by decide) (by decide)⟩
        · show Steps p.tables e below (s₁.setTop (mkF m 50 #[.val (.long q1), .second, .val (.int p2), .val (.long (p2.toInt64)), .second] [(.int (1 : Int32))])) _
          exact retN X0 hx (t := .boolean) Bd.returns (by simp) (hb hby d2_50) hr
        · show Qrm2 Z q1 p2 h0 n0 _ s₁.heap _
          rw [e0]
          exact ⟨(by simp only [frm2, if_pos hc8_3, if_pos hc36_4, if_pos hc42_5]), N0, rfl⟩
      · refine own_go (A := s₁.setTop (mkF m 42 #[.val (.long q1), .second, .val (.int p2), .val (.long (p2.toInt64)), .second] [(.int (2147483647 : Int32)), (.int p2)])) (B := s₁.setTop (mkF m 49 #[.val (.long q1), .second, .val (.int p2), .val (.long (p2.toInt64)), .second] [])) (fun t k => ?_) ?_
        · show Steps p.tables e below (s₁.setTop (mkF m 42 #[.val (.long q1), .second, .val (.int p2), .val (.long (p2.toInt64)), .second] [(.int (2147483647 : Int32)), (.int p2)])) _
          refine XS.icmpYes X0.here hx rfl (pc0 := 42) (pc' := 49) rfl (hb hby d2_42) rfl (feq hc42_5).2 (by decide) (by decide) ?_
          exact k
        refine own_go (A := s₁.setTop (mkF m 49 #[.val (.long q1), .second, .val (.int p2), .val (.long (p2.toInt64)), .second] [])) (B := s₁.setTop (mkF m 50 #[.val (.long q1), .second, .val (.int p2), .val (.long (p2.toInt64)), .second] [(.int (0 : Int32))])) (fun t k => ?_) ?_
        · show Steps p.tables e below (s₁.setTop (mkF m 49 #[.val (.long q1), .second, .val (.int p2), .val (.long (p2.toInt64)), .second] [])) _
          refine XS.iconst X0.here hx rfl (hb hby d2_49) ?_
          exact k
        obtain ⟨fs, hr, hrun, hended, hW, hsame⟩ := X0.leave (v := some (.int (0 : Int32))) (fun h => by rw [Bd.returns] at h; cases h)
        refine ⟨_, _, ?_, hrun, hended, _, _, rfl, ?_, ⟨_, rfl⟩, hW, hsame.mono (by decide) (by decide)⟩
        · show Steps p.tables e below (s₁.setTop (mkF m 50 #[.val (.long q1), .second, .val (.int p2), .val (.long (p2.toInt64)), .second] [(.int (0 : Int32))])) _
          exact retN X0 hx (t := .boolean) Bd.returns (by simp) (hb hby d2_50) hr
        · show Qrm2 Z q1 p2 h0 n0 _ s₁.heap _
          rw [e0]
          exact ⟨(by simp only [frm2, if_pos hc8_3, if_pos hc36_4, if_neg hc42_5]), N0, rfl⟩
    · refine own_go (A := s₁.setTop (mkF m 36 #[.val (.long q1), .second, .val (.int p2), .val (.long (p2.toInt64)), .second] [(.int (lcmpW q1 (2147483647 : Int64)))])) (B := s₁.setTop (mkF m 51 #[.val (.long q1), .second, .val (.int p2), .val (.long (p2.toInt64)), .second] [])) (fun t k => ?_) ?_
      · show Steps p.tables e below (s₁.setTop (mkF m 36 #[.val (.long q1), .second, .val (.int p2), .val (.long (p2.toInt64)), .second] [(.int (lcmpW q1 (2147483647 : Int64)))])) _
        refine XS.ifYes X0.here hx rfl (pc0 := 36) (pc' := 51) rfl (hb hby d2_36) rfl ((if0 _ _).trans (flt (mt (lw_gt _ _).mp hc36_4)).2.2.2) (by decide) (by decide) ?_
        exact k
      refine own_go (A := s₁.setTop (mkF m 51 #[.val (.long q1), .second, .val (.int p2), .val (.long (p2.toInt64)), .second] [])) (B := s₁.setTop (mkF m 54 #[.val (.long q1), .second, .val (.int p2), .val (.long (p2.toInt64)), .second] [(.int (-2147483648 : Int32)), (.int p2)])) (fun t k => ?_) ?_
      · show Steps p.tables e below (s₁.setTop (mkF m 51 #[.val (.long q1), .second, .val (.int p2), .val (.long (p2.toInt64)), .second] [])) _
        refine XS.iloadN X0.here hx rfl (hb hby d2_51) rfl ?_
        show Steps p.tables e below (s₁.setTop (mkF m 52 #[.val (.long q1), .second, .val (.int p2), .val (.long (p2.toInt64)), .second] [(.int p2)])) _
        refine X0.ldcInt hx hown (mvT hZ (hw _ (List.mem_of_getElem? (i := 13) rfl))) (g := (mkF m 52 #[.val (.long q1), .second, .val (.int p2), .val (.long (p2.toInt64)), .second] [(.int p2)])) rfl (hb hby d2_52) _ ?_
        exact k
      by_cases hc54_6 : p2 = (-2147483648 : Int32)
      · refine own_go (A := s₁.setTop (mkF m 54 #[.val (.long q1), .second, .val (.int p2), .val (.long (p2.toInt64)), .second] [(.int (-2147483648 : Int32)), (.int p2)])) (B := s₁.setTop (mkF m 57 #[.val (.long q1), .second, .val (.int p2), .val (.long (p2.toInt64)), .second] [])) (fun t k => ?_) ?_
        · show Steps p.tables e below (s₁.setTop (mkF m 54 #[.val (.long q1), .second, .val (.int p2), .val (.long (p2.toInt64)), .second] [(.int (-2147483648 : Int32)), (.int p2)])) _
          refine XS.icmpNo X0.here hx rfl (hb hby d2_54) rfl (teq hc54_6).2 ?_
          exact k
        refine own_go (A := s₁.setTop (mkF m 57 #[.val (.long q1), .second, .val (.int p2), .val (.long (p2.toInt64)), .second] [])) (B := s₁.setTop (mkF m 62 #[.val (.long q1), .second, .val (.int p2), .val (.long (p2.toInt64)), .second] [(.int (1 : Int32))])) (fun t k => ?_) ?_
        · show Steps p.tables e below (s₁.setTop (mkF m 57 #[.val (.long q1), .second, .val (.int p2), .val (.long (p2.toInt64)), .second] [])) _
          refine XS.iconst X0.here hx rfl (hb hby d2_57) ?_
          show Steps p.tables e below (s₁.setTop (mkF m 58 #[.val (.long q1), .second, .val (.int p2), .val (.long (p2.toInt64)), .second] [(.int (1 : Int32))])) _
          refine XS.goto X0.here hx rfl (pc0 := 58) (pc' := 62) rfl (hb hby d2_58) (by decide) (by decide) ?_
          exact k
        obtain ⟨fs, hr, hrun, hended, hW, hsame⟩ := X0.leave (v := some (.int (1 : Int32))) (fun h => by rw [Bd.returns] at h; cases h)
        refine ⟨_, _, ?_, hrun, hended, _, _, rfl, ?_, ⟨_, rfl⟩, hW, hsame.mono (by decide) (by decide)⟩
        · show Steps p.tables e below (s₁.setTop (mkF m 62 #[.val (.long q1), .second, .val (.int p2), .val (.long (p2.toInt64)), .second] [(.int (1 : Int32))])) _
          exact retN X0 hx (t := .boolean) Bd.returns (by simp) (hb hby d2_62) hr
        · show Qrm2 Z q1 p2 h0 n0 _ s₁.heap _
          rw [e0]
          exact ⟨(by simp only [frm2, if_pos hc8_3, if_neg hc36_4, if_pos hc54_6]), N0, rfl⟩
      · refine own_go (A := s₁.setTop (mkF m 54 #[.val (.long q1), .second, .val (.int p2), .val (.long (p2.toInt64)), .second] [(.int (-2147483648 : Int32)), (.int p2)])) (B := s₁.setTop (mkF m 61 #[.val (.long q1), .second, .val (.int p2), .val (.long (p2.toInt64)), .second] [])) (fun t k => ?_) ?_
        · show Steps p.tables e below (s₁.setTop (mkF m 54 #[.val (.long q1), .second, .val (.int p2), .val (.long (p2.toInt64)), .second] [(.int (-2147483648 : Int32)), (.int p2)])) _
          refine XS.icmpYes X0.here hx rfl (pc0 := 54) (pc' := 61) rfl (hb hby d2_54) rfl (feq hc54_6).2 (by decide) (by decide) ?_
          exact k
        refine own_go (A := s₁.setTop (mkF m 61 #[.val (.long q1), .second, .val (.int p2), .val (.long (p2.toInt64)), .second] [])) (B := s₁.setTop (mkF m 62 #[.val (.long q1), .second, .val (.int p2), .val (.long (p2.toInt64)), .second] [(.int (0 : Int32))])) (fun t k => ?_) ?_
        · show Steps p.tables e below (s₁.setTop (mkF m 61 #[.val (.long q1), .second, .val (.int p2), .val (.long (p2.toInt64)), .second] [])) _
          refine XS.iconst X0.here hx rfl (hb hby d2_61) ?_
          exact k
        obtain ⟨fs, hr, hrun, hended, hW, hsame⟩ := X0.leave (v := some (.int (0 : Int32))) (fun h => by rw [Bd.returns] at h; cases h)
        refine ⟨_, _, ?_, hrun, hended, _, _, rfl, ?_, ⟨_, rfl⟩, hW, hsame.mono (by decide) (by decide)⟩
        · show Steps p.tables e below (s₁.setTop (mkF m 62 #[.val (.long q1), .second, .val (.int p2), .val (.long (p2.toInt64)), .second] [(.int (0 : Int32))])) _
          exact retN X0 hx (t := .boolean) Bd.returns (by simp) (hb hby d2_62) hr
        · show Qrm2 Z q1 p2 h0 n0 _ s₁.heap _
          rw [e0]
          exact ⟨(by simp only [frm2, if_pos hc8_3, if_neg hc36_4, if_neg hc54_6]), N0, rfl⟩
  · refine own_go (A := s₁.setTop (mkF m 8 #[.val (.long q1), .second, .val (.int p2), .val (.long (p2.toInt64)), .second] [(.int (lcmpW q1 (-2147483648 : Int64)))])) (B := s₁.setTop (mkF m 11 #[.val (.long q1), .second, .val (.int p2), .val (.long (p2.toInt64)), .second] [])) (fun t k => ?_) ?_
    · show Steps p.tables e below (s₁.setTop (mkF m 8 #[.val (.long q1), .second, .val (.int p2), .val (.long (p2.toInt64)), .second] [(.int (lcmpW q1 (-2147483648 : Int64)))])) _
      refine XS.ifNo X0.here hx rfl (hb hby d2_8) rfl ((if0 _ _).trans (flt (mt (lw_lt _ _).mp hc8_3)).1) ?_
      exact k
    refine own_go (A := s₁.setTop (mkF m 11 #[.val (.long q1), .second, .val (.int p2), .val (.long (p2.toInt64)), .second] [])) (B := s₁.setTop (mkF m 16 #[.val (.long q1), .second, .val (.int p2), .val (.long (p2.toInt64)), .second] [(.int (lcmpW q1 (2147483647 : Int64)))])) (fun t k => ?_) ?_
    · show Steps p.tables e below (s₁.setTop (mkF m 11 #[.val (.long q1), .second, .val (.int p2), .val (.long (p2.toInt64)), .second] [])) _
      refine XS.lloadN X0.here hx rfl (hb hby d2_11) rfl ?_
      show Steps p.tables e below (s₁.setTop (mkF m 12 #[.val (.long q1), .second, .val (.int p2), .val (.long (p2.toInt64)), .second] [(.long q1)])) _
      refine X0.ldc2Long hx hown (mvT hZ (hw _ (List.mem_of_getElem? (i := 11) rfl))) (g := (mkF m 12 #[.val (.long q1), .second, .val (.int p2), .val (.long (p2.toInt64)), .second] [(.long q1)])) rfl (hb hby d2_12) _ ?_
      show Steps p.tables e below (s₁.setTop (mkF m 15 #[.val (.long q1), .second, .val (.int p2), .val (.long (p2.toInt64)), .second] [(.long (2147483647 : Int64)), (.long q1)])) _
      refine XS.lcmp X0.here hx rfl (hb hby d2_15) rfl ?_
      exact k
    by_cases hc16_7 : (2147483647 : Int64) < q1
    · refine own_go (A := s₁.setTop (mkF m 16 #[.val (.long q1), .second, .val (.int p2), .val (.long (p2.toInt64)), .second] [(.int (lcmpW q1 (2147483647 : Int64)))])) (B := s₁.setTop (mkF m 31 #[.val (.long q1), .second, .val (.int p2), .val (.long (p2.toInt64)), .second] [])) (fun t k => ?_) ?_
      · show Steps p.tables e below (s₁.setTop (mkF m 16 #[.val (.long q1), .second, .val (.int p2), .val (.long (p2.toInt64)), .second] [(.int (lcmpW q1 (2147483647 : Int64)))])) _
        refine XS.ifYes X0.here hx rfl (pc0 := 16) (pc' := 31) rfl (hb hby d2_16) rfl ((if0 _ _).trans (tlt ((lw_gt _ _).mpr hc16_7)).2.2.1) (by decide) (by decide) ?_
        exact k
      refine own_go (A := s₁.setTop (mkF m 31 #[.val (.long q1), .second, .val (.int p2), .val (.long (p2.toInt64)), .second] [])) (B := s₁.setTop (mkF m 42 #[.val (.long q1), .second, .val (.int p2), .val (.long (p2.toInt64)), .second] [(.int (2147483647 : Int32)), (.int p2)])) (fun t k => ?_) ?_
      · show Steps p.tables e below (s₁.setTop (mkF m 31 #[.val (.long q1), .second, .val (.int p2), .val (.long (p2.toInt64)), .second] [])) _
        refine XS.lloadN X0.here hx rfl (hb hby d2_31) rfl ?_
        show Steps p.tables e below (s₁.setTop (mkF m 32 #[.val (.long q1), .second, .val (.int p2), .val (.long (p2.toInt64)), .second] [(.long q1)])) _
        refine X0.ldc2Long hx hown (mvT hZ (hw _ (List.mem_of_getElem? (i := 11) rfl))) (g := (mkF m 32 #[.val (.long q1), .second, .val (.int p2), .val (.long (p2.toInt64)), .second] [(.long q1)])) rfl (hb hby d2_32) _ ?_
        show Steps p.tables e below (s₁.setTop (mkF m 35 #[.val (.long q1), .second, .val (.int p2), .val (.long (p2.toInt64)), .second] [(.long (2147483647 : Int64)), (.long q1)])) _
        refine XS.lcmp X0.here hx rfl (hb hby d2_35) rfl ?_
        show Steps p.tables e below (s₁.setTop (mkF m 36 #[.val (.long q1), .second, .val (.int p2), .val (.long (p2.toInt64)), .second] [(.int (lcmpW q1 (2147483647 : Int64)))])) _
        refine XS.ifNo X0.here hx rfl (hb hby d2_36) rfl ((if0 _ _).trans (tlt ((lw_gt _ _).mpr hc16_7)).2.2.2) ?_
        show Steps p.tables e below (s₁.setTop (mkF m 39 #[.val (.long q1), .second, .val (.int p2), .val (.long (p2.toInt64)), .second] [])) _
        refine XS.iloadN X0.here hx rfl (hb hby d2_39) rfl ?_
        show Steps p.tables e below (s₁.setTop (mkF m 40 #[.val (.long q1), .second, .val (.int p2), .val (.long (p2.toInt64)), .second] [(.int p2)])) _
        refine X0.ldcInt hx hown (mvT hZ (hw _ (List.mem_of_getElem? (i := 15) rfl))) (g := (mkF m 40 #[.val (.long q1), .second, .val (.int p2), .val (.long (p2.toInt64)), .second] [(.int p2)])) rfl (hb hby d2_40) _ ?_
        exact k
      by_cases hc42_9 : p2 = (2147483647 : Int32)
      · refine own_go (A := s₁.setTop (mkF m 42 #[.val (.long q1), .second, .val (.int p2), .val (.long (p2.toInt64)), .second] [(.int (2147483647 : Int32)), (.int p2)])) (B := s₁.setTop (mkF m 45 #[.val (.long q1), .second, .val (.int p2), .val (.long (p2.toInt64)), .second] [])) (fun t k => ?_) ?_
        · show Steps p.tables e below (s₁.setTop (mkF m 42 #[.val (.long q1), .second, .val (.int p2), .val (.long (p2.toInt64)), .second] [(.int (2147483647 : Int32)), (.int p2)])) _
          refine XS.icmpNo X0.here hx rfl (hb hby d2_42) rfl (teq hc42_9).2 ?_
          exact k
        refine own_go (A := s₁.setTop (mkF m 45 #[.val (.long q1), .second, .val (.int p2), .val (.long (p2.toInt64)), .second] [])) (B := s₁.setTop (mkF m 50 #[.val (.long q1), .second, .val (.int p2), .val (.long (p2.toInt64)), .second] [(.int (1 : Int32))])) (fun t k => ?_) ?_
        · show Steps p.tables e below (s₁.setTop (mkF m 45 #[.val (.long q1), .second, .val (.int p2), .val (.long (p2.toInt64)), .second] [])) _
          refine XS.iconst X0.here hx rfl (hb hby d2_45) ?_
          show Steps p.tables e below (s₁.setTop (mkF m 46 #[.val (.long q1), .second, .val (.int p2), .val (.long (p2.toInt64)), .second] [(.int (1 : Int32))])) _
          refine XS.goto X0.here hx rfl (pc0 := 46) (pc' := 50) rfl (hb hby d2_46) (by decide) (by decide) ?_
          exact k
        obtain ⟨fs, hr, hrun, hended, hW, hsame⟩ := X0.leave (v := some (.int (1 : Int32))) (fun h => by rw [Bd.returns] at h; cases h)
        refine ⟨_, _, ?_, hrun, hended, _, _, rfl, ?_, ⟨_, rfl⟩, hW, hsame.mono (by decide) (by decide)⟩
        · show Steps p.tables e below (s₁.setTop (mkF m 50 #[.val (.long q1), .second, .val (.int p2), .val (.long (p2.toInt64)), .second] [(.int (1 : Int32))])) _
          exact retN X0 hx (t := .boolean) Bd.returns (by simp) (hb hby d2_50) hr
        · show Qrm2 Z q1 p2 h0 n0 _ s₁.heap _
          rw [e0]
          exact ⟨(by simp only [frm2, if_neg hc8_3, if_pos hc16_7, if_pos hc42_9]), N0, rfl⟩
      · refine own_go (A := s₁.setTop (mkF m 42 #[.val (.long q1), .second, .val (.int p2), .val (.long (p2.toInt64)), .second] [(.int (2147483647 : Int32)), (.int p2)])) (B := s₁.setTop (mkF m 49 #[.val (.long q1), .second, .val (.int p2), .val (.long (p2.toInt64)), .second] [])) (fun t k => ?_) ?_
        · show Steps p.tables e below (s₁.setTop (mkF m 42 #[.val (.long q1), .second, .val (.int p2), .val (.long (p2.toInt64)), .second] [(.int (2147483647 : Int32)), (.int p2)])) _
          refine XS.icmpYes X0.here hx rfl (pc0 := 42) (pc' := 49) rfl (hb hby d2_42) rfl (feq hc42_9).2 (by decide) (by decide) ?_
          exact k
        refine own_go (A := s₁.setTop (mkF m 49 #[.val (.long q1), .second, .val (.int p2), .val (.long (p2.toInt64)), .second] [])) (B := s₁.setTop (mkF m 50 #[.val (.long q1), .second, .val (.int p2), .val (.long (p2.toInt64)), .second] [(.int (0 : Int32))])) (fun t k => ?_) ?_
        · show Steps p.tables e below (s₁.setTop (mkF m 49 #[.val (.long q1), .second, .val (.int p2), .val (.long (p2.toInt64)), .second] [])) _
          refine XS.iconst X0.here hx rfl (hb hby d2_49) ?_
          exact k
        obtain ⟨fs, hr, hrun, hended, hW, hsame⟩ := X0.leave (v := some (.int (0 : Int32))) (fun h => by rw [Bd.returns] at h; cases h)
        refine ⟨_, _, ?_, hrun, hended, _, _, rfl, ?_, ⟨_, rfl⟩, hW, hsame.mono (by decide) (by decide)⟩
        · show Steps p.tables e below (s₁.setTop (mkF m 50 #[.val (.long q1), .second, .val (.int p2), .val (.long (p2.toInt64)), .second] [(.int (0 : Int32))])) _
          exact retN X0 hx (t := .boolean) Bd.returns (by simp) (hb hby d2_50) hr
        · show Qrm2 Z q1 p2 h0 n0 _ s₁.heap _
          rw [e0]
          exact ⟨(by simp only [frm2, if_neg hc8_3, if_pos hc16_7, if_neg hc42_9]), N0, rfl⟩
    · refine own_go (A := s₁.setTop (mkF m 16 #[.val (.long q1), .second, .val (.int p2), .val (.long (p2.toInt64)), .second] [(.int (lcmpW q1 (2147483647 : Int64)))])) (B := s₁.setTop (mkF m 19 #[.val (.long q1), .second, .val (.int p2), .val (.long (p2.toInt64)), .second] [])) (fun t k => ?_) ?_
      · show Steps p.tables e below (s₁.setTop (mkF m 16 #[.val (.long q1), .second, .val (.int p2), .val (.long (p2.toInt64)), .second] [(.int (lcmpW q1 (2147483647 : Int64)))])) _
        refine XS.ifNo X0.here hx rfl (hb hby d2_16) rfl ((if0 _ _).trans (flt (mt (lw_gt _ _).mp hc16_7)).2.2.1) ?_
        exact k
      refine own_go (A := s₁.setTop (mkF m 19 #[.val (.long q1), .second, .val (.int p2), .val (.long (p2.toInt64)), .second] [])) (B := s₁.setTop (mkF m 22 #[.val (.long q1), .second, .val (.int p2), .val (.long (p2.toInt64)), .second] [(.int (lcmpW (p2.toInt64) q1))])) (fun t k => ?_) ?_
      · show Steps p.tables e below (s₁.setTop (mkF m 19 #[.val (.long q1), .second, .val (.int p2), .val (.long (p2.toInt64)), .second] [])) _
        refine XS.lloadN X0.here hx rfl (hb hby d2_19) rfl ?_
        show Steps p.tables e below (s₁.setTop (mkF m 20 #[.val (.long q1), .second, .val (.int p2), .val (.long (p2.toInt64)), .second] [(.long (p2.toInt64))])) _
        refine XS.lloadN X0.here hx rfl (hb hby d2_20) rfl ?_
        show Steps p.tables e below (s₁.setTop (mkF m 21 #[.val (.long q1), .second, .val (.int p2), .val (.long (p2.toInt64)), .second] [(.long q1), (.long (p2.toInt64))])) _
        refine XS.lcmp X0.here hx rfl (hb hby d2_21) rfl ?_
        exact k
      by_cases hc22_10 : (p2.toInt64) = q1
      · refine own_go (A := s₁.setTop (mkF m 22 #[.val (.long q1), .second, .val (.int p2), .val (.long (p2.toInt64)), .second] [(.int (lcmpW (p2.toInt64) q1))])) (B := s₁.setTop (mkF m 25 #[.val (.long q1), .second, .val (.int p2), .val (.long (p2.toInt64)), .second] [])) (fun t k => ?_) ?_
        · show Steps p.tables e below (s₁.setTop (mkF m 22 #[.val (.long q1), .second, .val (.int p2), .val (.long (p2.toInt64)), .second] [(.int (lcmpW (p2.toInt64) q1))])) _
          refine XS.ifNo X0.here hx rfl (hb hby d2_22) rfl ((if0 _ _).trans (teq ((lw_eq _ _).mpr hc22_10)).2) ?_
          exact k
        refine own_go (A := s₁.setTop (mkF m 25 #[.val (.long q1), .second, .val (.int p2), .val (.long (p2.toInt64)), .second] [])) (B := s₁.setTop (mkF m 30 #[.val (.long q1), .second, .val (.int p2), .val (.long (p2.toInt64)), .second] [(.int (1 : Int32))])) (fun t k => ?_) ?_
        · show Steps p.tables e below (s₁.setTop (mkF m 25 #[.val (.long q1), .second, .val (.int p2), .val (.long (p2.toInt64)), .second] [])) _
          refine XS.iconst X0.here hx rfl (hb hby d2_25) ?_
          show Steps p.tables e below (s₁.setTop (mkF m 26 #[.val (.long q1), .second, .val (.int p2), .val (.long (p2.toInt64)), .second] [(.int (1 : Int32))])) _
          refine XS.goto X0.here hx rfl (pc0 := 26) (pc' := 30) rfl (hb hby d2_26) (by decide) (by decide) ?_
          exact k
        obtain ⟨fs, hr, hrun, hended, hW, hsame⟩ := X0.leave (v := some (.int (1 : Int32))) (fun h => by rw [Bd.returns] at h; cases h)
        refine ⟨_, _, ?_, hrun, hended, _, _, rfl, ?_, ⟨_, rfl⟩, hW, hsame.mono (by decide) (by decide)⟩
        · show Steps p.tables e below (s₁.setTop (mkF m 30 #[.val (.long q1), .second, .val (.int p2), .val (.long (p2.toInt64)), .second] [(.int (1 : Int32))])) _
          exact retN X0 hx (t := .boolean) Bd.returns (by simp) (hb hby d2_30) hr
        · show Qrm2 Z q1 p2 h0 n0 _ s₁.heap _
          rw [e0]
          exact ⟨(by simp only [frm2, if_neg hc8_3, if_neg hc16_7, if_pos hc22_10]), N0, rfl⟩
      · refine own_go (A := s₁.setTop (mkF m 22 #[.val (.long q1), .second, .val (.int p2), .val (.long (p2.toInt64)), .second] [(.int (lcmpW (p2.toInt64) q1))])) (B := s₁.setTop (mkF m 29 #[.val (.long q1), .second, .val (.int p2), .val (.long (p2.toInt64)), .second] [])) (fun t k => ?_) ?_
        · show Steps p.tables e below (s₁.setTop (mkF m 22 #[.val (.long q1), .second, .val (.int p2), .val (.long (p2.toInt64)), .second] [(.int (lcmpW (p2.toInt64) q1))])) _
          refine XS.ifYes X0.here hx rfl (pc0 := 22) (pc' := 29) rfl (hb hby d2_22) rfl ((if0 _ _).trans (feq (mt (lw_eq _ _).mp hc22_10)).2) (by decide) (by decide) ?_
          exact k
        refine own_go (A := s₁.setTop (mkF m 29 #[.val (.long q1), .second, .val (.int p2), .val (.long (p2.toInt64)), .second] [])) (B := s₁.setTop (mkF m 30 #[.val (.long q1), .second, .val (.int p2), .val (.long (p2.toInt64)), .second] [(.int (0 : Int32))])) (fun t k => ?_) ?_
        · show Steps p.tables e below (s₁.setTop (mkF m 29 #[.val (.long q1), .second, .val (.int p2), .val (.long (p2.toInt64)), .second] [])) _
          refine XS.iconst X0.here hx rfl (hb hby d2_29) ?_
          exact k
        obtain ⟨fs, hr, hrun, hended, hW, hsame⟩ := X0.leave (v := some (.int (0 : Int32))) (fun h => by rw [Bd.returns] at h; cases h)
        refine ⟨_, _, ?_, hrun, hended, _, _, rfl, ?_, ⟨_, rfl⟩, hW, hsame.mono (by decide) (by decide)⟩
        · show Steps p.tables e below (s₁.setTop (mkF m 30 #[.val (.long q1), .second, .val (.int p2), .val (.long (p2.toInt64)), .second] [(.int (0 : Int32))])) _
          exact retN X0 hx (t := .boolean) Bd.returns (by simp) (hb hby d2_30) hr
        · show Qrm2 Z q1 p2 h0 n0 _ s₁.heap _
          rw [e0]
          exact ⟨(by simp only [frm2, if_neg hc8_3, if_neg hc16_7, if_neg hc22_10]), N0, rfl⟩
def frm0 (q1 : Int64) (p2 : Int32) : Int32 := (if (frm2 q1 (frm1 q1)) = (0 : Int32) then (0 : Int32) else (if (frm1 (p2.toInt64)) = p2 then (1 : Int32) else (0 : Int32)))
def Qrm0 (Z : State) (q1 : Int64) (p2 : Int32) (h0 : Heap) (n0 : Nat) (v : Option Value) (h : Heap) (L : List Loc) : Prop := v = some (.int (frm0 q1 p2)) ∧ Fr n0 L
theorem efrm0 (m : MethodId) (x0 : Int64) (x1 : Int32) : entryFrame m #[(.long x0), (.int x1)] maxLocals = mkF m 0 #[.val (.long x0), .second, .val (.int x1), .unset, .unset] [] := by first | (simp [entryFrame, mkF, argsToLocals, Value.category, maxLocals]; done) | rfl
set_option maxRecDepth 65536 in
set_option maxHeartbeats 40000000 in
theorem rm0 (l : Launch) (Z : State) (a0 : Array Value) (hw : ∀ d ∈ tables_1, d.before a0 Z = true) (ws : List Jvm.Cond) (q1 : Int64) (p2 : Int32) (h0 : Heap) (n0 : Nat) (Z0 : n0 ≤ h0.size)  :
    MetFree l x (head1 (Jvm.Cond.code x code maxLocals ret :: ws) room_1) (fun a U => a = #[(.long q1), (.int p2)] ∧ Z.Warmed39 U.vm ∧ U.heap = h0) (fun _ _ _ _ _ => True) (fun _ U o U' => ∃ v L, o = .returned v ∧ Qrm0 Z q1 p2 h0 n0 v U'.heap L ∧ FrameEnd U o U' L room_1.cells room_1.slots) := by
  refine MetFree.of_bodySF (plainFor_of_name pn_1) hisR ?_
  intro p e s m args below meth c s₁ Bd hml0 hP hK
  obtain ⟨rfl, hZ, hh⟩ := hP
  have hx := Bd.exec
  have hby := Bd.bytes
  have hml : c.maxLocals = 5 := hml0
  have hown : s.vm.findClass "com/example/mullion/mullion/geom/SaturatingClampPinLaw" = some m.cls := findClass_of_methodNamed Bd.named
  have hnm := (name_of_methodNamed Bd.named Bd.method).1
  have X0 : Stand p l e room_1 s m #[(.long q1), (.int p2)] below meth c s₁ [] 0 0 := Stand.of_body Bd
  have e0 : s₁.heap = h0 := by rw [← hh, Bd.state]; rfl
  have N0 := Fr.nil n0
  have K0 : Keep h0 h0 [] := Keep.refl h0 _
  refine own_go (B := s₁.setTop (mkF m 0 #[.val (.long q1), .second, .val (.int p2), .unset, .unset] [])) (fun t k => castTop (efrm0 m q1 p2) k) ?_
  refine own_go (A := s₁.setTop (mkF m 0 #[.val (.long q1), .second, .val (.int p2), .unset, .unset] [])) (B := s₁.setTop (mkF m 1 #[.val (.long q1), .second, .val (.int p2), .unset, .unset] [(.long q1)])) (fun t k => ?_) ?_
  · show Steps p.tables e below (s₁.setTop (mkF m 0 #[.val (.long q1), .second, .val (.int p2), .unset, .unset] [])) _
    refine XS.lloadN X0.here hx rfl (hb hby at_0) rfl ?_
    exact k
  obtain ⟨_, _, ⟨T11, L11, k11, n11⟩, -, X11, ⟨Lc11, hQ11, l11, y11, z11⟩, st11⟩ := Jvm.LawKit.callS X0 hx (y := (⟨"com/example/mullion/mullion/geom/Saturating", "clamp", "(J)I"⟩ : MethodName)) hown (mvT hZ (hw _ (List.mem_of_getElem? (i := 0) rfl))) (mvT hZ (hw _ (List.mem_of_getElem? (i := 1) rfl))) (mvT hZ (hw _ (List.mem_of_getElem? (i := 2) rfl))) (mvT hZ (hw _ (List.mem_of_getElem? (i := 3) rfl))) (by decide) (backOf (W := 0) (rm1 l Z a0 hw [] q1 h0 n0 Z0 ) hZ (hw _ (List.mem_of_getElem? (i := 3) rfl)) (hw _ (List.mem_of_getElem? (i := 2) rfl)) (by decide) (by decide)) (g := (mkF m 1 #[.val (.long q1), .second, .val (.int p2), .unset, .unset] [(.long q1)])) rfl (by rw [hml]; rfl) (argsL := [(.long q1)]) (rest := []) (lenOf pd_0 rfl) rfl (by show 2 * 0 + _ ≤ _; exact Nat.le_of_eq rfl) (hb hby at_1) (fun _ _ => ⟨rfl, e0, (by decide : 0 + 0 ≤ _), (by decide : 0 + 0 ≤ _)⟩)
  dsimp only [Pt.U, Pt.locs, Pt.cells, Pt.slots] at X11 l11 y11 z11 st11 hQ11
  subst l11 y11 z11
  obtain ⟨rfl, Nq11, e11⟩ := hQ11
  have N11 := Fr.app N0 Nq11
  refine own_go (A := _) (B := T11.setTop (mkF m 4 #[.val (.long q1), .second, .val (.int p2), .unset, .unset] [(.int (frm1 q1))])) st11 ?_
  refine own_go (A := T11.setTop (mkF m 4 #[.val (.long q1), .second, .val (.int p2), .unset, .unset] [(.int (frm1 q1))])) (B := T11.setTop (mkF m 7 #[.val (.long q1), .second, .val (.int p2), .val (.int (frm1 q1)), .unset] [(.long (p2.toInt64))])) (fun t k => ?_) ?_
  · show Steps p.tables e below (T11.setTop (mkF m 4 #[.val (.long q1), .second, .val (.int p2), .unset, .unset] [(.int (frm1 q1))])) _
    refine XS.istoreN X11.here hx rfl (hb hby at_4) rfl (l' := #[.val (.long q1), .second, .val (.int p2), .val (.int (frm1 q1)), .unset]) rfl ?_
    show Steps p.tables e below (T11.setTop (mkF m 5 #[.val (.long q1), .second, .val (.int p2), .val (.int (frm1 q1)), .unset] [])) _
    refine XS.iloadN X11.here hx rfl (hb hby at_5) rfl ?_
    show Steps p.tables e below (T11.setTop (mkF m 6 #[.val (.long q1), .second, .val (.int p2), .val (.int (frm1 q1)), .unset] [(.int p2)])) _
    refine XS.i2l X11.here hx rfl (hb hby at_6) rfl ?_
    exact k
  obtain ⟨_, _, ⟨T12, L12, k12, n12⟩, -, X12, ⟨Lc12, hQ12, l12, y12, z12⟩, st12⟩ := Jvm.LawKit.callS X11 hx (y := (⟨"com/example/mullion/mullion/geom/Saturating", "clamp", "(J)I"⟩ : MethodName)) hown (mvT hZ (hw _ (List.mem_of_getElem? (i := 0) rfl))) (mvT hZ (hw _ (List.mem_of_getElem? (i := 1) rfl))) (mvT hZ (hw _ (List.mem_of_getElem? (i := 2) rfl))) (mvT hZ (hw _ (List.mem_of_getElem? (i := 3) rfl))) (by decide) (backOf (W := 0) (rm1 l Z a0 hw [] (p2.toInt64) h0 n0 Z0 ) hZ (hw _ (List.mem_of_getElem? (i := 3) rfl)) (hw _ (List.mem_of_getElem? (i := 2) rfl)) (by decide) (by decide)) (g := (mkF m 7 #[.val (.long q1), .second, .val (.int p2), .val (.int (frm1 q1)), .unset] [(.long (p2.toInt64))])) rfl (by rw [hml]; rfl) (argsL := [(.long (p2.toInt64))]) (rest := []) (lenOf pd_0 rfl) rfl (by show 2 * 0 + _ ≤ _; exact Nat.le_of_eq rfl) (hb hby at_7) (fun _ _ => ⟨rfl, e11, (by decide : 0 + 0 ≤ _), (by decide : 0 + 0 ≤ _)⟩)
  dsimp only [Pt.U, Pt.locs, Pt.cells, Pt.slots] at X12 l12 y12 z12 st12 hQ12
  subst l12 y12 z12
  obtain ⟨rfl, Nq12, e12⟩ := hQ12
  have N12 := Fr.app N11 Nq12
  refine own_go (A := _) (B := T12.setTop (mkF m 10 #[.val (.long q1), .second, .val (.int p2), .val (.int (frm1 q1)), .unset] [(.int (frm1 (p2.toInt64)))])) st12 ?_
  refine own_go (A := T12.setTop (mkF m 10 #[.val (.long q1), .second, .val (.int p2), .val (.int (frm1 q1)), .unset] [(.int (frm1 (p2.toInt64)))])) (B := T12.setTop (mkF m 14 #[.val (.long q1), .second, .val (.int p2), .val (.int (frm1 q1)), .val (.int (frm1 (p2.toInt64)))] [(.int (frm1 q1)), (.long q1)])) (fun t k => ?_) ?_
  · show Steps p.tables e below (T12.setTop (mkF m 10 #[.val (.long q1), .second, .val (.int p2), .val (.int (frm1 q1)), .unset] [(.int (frm1 (p2.toInt64)))])) _
    refine XS.istore X12.here hx rfl (hb hby at_10) rfl (l' := #[.val (.long q1), .second, .val (.int p2), .val (.int (frm1 q1)), .val (.int (frm1 (p2.toInt64)))]) rfl ?_
    show Steps p.tables e below (T12.setTop (mkF m 12 #[.val (.long q1), .second, .val (.int p2), .val (.int (frm1 q1)), .val (.int (frm1 (p2.toInt64)))] [])) _
    refine XS.lloadN X12.here hx rfl (hb hby at_12) rfl ?_
    show Steps p.tables e below (T12.setTop (mkF m 13 #[.val (.long q1), .second, .val (.int p2), .val (.int (frm1 q1)), .val (.int (frm1 (p2.toInt64)))] [(.long q1)])) _
    refine XS.iloadN X12.here hx rfl (hb hby at_13) rfl ?_
    exact k
  obtain ⟨_, _, ⟨T13, L13, k13, n13⟩, -, X13, ⟨Lc13, hQ13, l13, y13, z13⟩, st13⟩ := Jvm.LawKit.callS X12 hx (y := (⟨"com/example/mullion/mullion/geom/SaturatingClampPinLaw", "pinned", "(JI)Z"⟩ : MethodName)) hown (mvT hZ (hw _ (List.mem_of_getElem? (i := 6) rfl))) (mvT hZ (hw _ (List.mem_of_getElem? (i := 7) rfl))) (mvT hZ (hw _ (List.mem_of_getElem? (i := 8) rfl))) (mvT hZ (hw _ (List.mem_of_getElem? (i := 9) rfl))) (by decide) (backOf (W := 0) (rm2 l Z a0 hw [] q1 (frm1 q1) h0 n0 Z0 ) hZ (hw _ (List.mem_of_getElem? (i := 9) rfl)) (hw _ (List.mem_of_getElem? (i := 8) rfl)) (by decide) (by decide)) (g := (mkF m 14 #[.val (.long q1), .second, .val (.int p2), .val (.int (frm1 q1)), .val (.int (frm1 (p2.toInt64)))] [(.int (frm1 q1)), (.long q1)])) rfl (by rw [hml]; rfl) (argsL := [(.long q1), (.int (frm1 q1))]) (rest := []) (lenOf pd_1 rfl) rfl (by show 2 * 0 + _ ≤ _; exact Nat.le_of_eq rfl) (hb hby at_14) (fun _ _ => ⟨rfl, e12, (by decide : 0 + 0 ≤ _), (by decide : 0 + 0 ≤ _)⟩)
  dsimp only [Pt.U, Pt.locs, Pt.cells, Pt.slots] at X13 l13 y13 z13 st13 hQ13
  subst l13 y13 z13
  obtain ⟨rfl, Nq13, e13⟩ := hQ13
  have N13 := Fr.app N12 Nq13
  refine own_go (A := _) (B := T13.setTop (mkF m 17 #[.val (.long q1), .second, .val (.int p2), .val (.int (frm1 q1)), .val (.int (frm1 (p2.toInt64)))] [(.int (frm2 q1 (frm1 q1)))])) st13 ?_
  by_cases hc17_14 : (frm2 q1 (frm1 q1)) = (0 : Int32)
  · refine own_go (A := T13.setTop (mkF m 17 #[.val (.long q1), .second, .val (.int p2), .val (.int (frm1 q1)), .val (.int (frm1 (p2.toInt64)))] [(.int (frm2 q1 (frm1 q1)))])) (B := T13.setTop (mkF m 30 #[.val (.long q1), .second, .val (.int p2), .val (.int (frm1 q1)), .val (.int (frm1 (p2.toInt64)))] [])) (fun t k => ?_) ?_
    · show Steps p.tables e below (T13.setTop (mkF m 17 #[.val (.long q1), .second, .val (.int p2), .val (.int (frm1 q1)), .val (.int (frm1 (p2.toInt64)))] [(.int (frm2 q1 (frm1 q1)))])) _
      refine XS.ifYes X13.here hx rfl (pc0 := 17) (pc' := 30) rfl (hb hby at_17) rfl ((if0 _ _).trans (teq hc17_14).1) (by decide) (by decide) ?_
      exact k
    refine own_go (A := T13.setTop (mkF m 30 #[.val (.long q1), .second, .val (.int p2), .val (.int (frm1 q1)), .val (.int (frm1 (p2.toInt64)))] [])) (B := T13.setTop (mkF m 31 #[.val (.long q1), .second, .val (.int p2), .val (.int (frm1 q1)), .val (.int (frm1 (p2.toInt64)))] [(.int (0 : Int32))])) (fun t k => ?_) ?_
    · show Steps p.tables e below (T13.setTop (mkF m 30 #[.val (.long q1), .second, .val (.int p2), .val (.int (frm1 q1)), .val (.int (frm1 (p2.toInt64)))] [])) _
      refine XS.iconst X13.here hx rfl (hb hby at_30) ?_
      exact k
    obtain ⟨fs, hr, hrun, hended, hW, hsame⟩ := X13.leave (v := some (.int (0 : Int32))) (fun h => by rw [Bd.returns] at h; cases h)
    refine ⟨_, _, ?_, hrun, hended, _, _, rfl, ?_, ⟨_, rfl⟩, hW, hsame.mono (by decide) (by decide)⟩
    · show Steps p.tables e below (T13.setTop (mkF m 31 #[.val (.long q1), .second, .val (.int p2), .val (.int (frm1 q1)), .val (.int (frm1 (p2.toInt64)))] [(.int (0 : Int32))])) _
      exact retN X13 hx (t := .boolean) Bd.returns (by simp) (hb hby at_31) hr
    · show Qrm0 Z q1 p2 h0 n0 _ T13.heap _
      rw [e13]
      exact ⟨(by simp only [frm0, if_pos hc17_14]), N13⟩
  · refine own_go (A := T13.setTop (mkF m 17 #[.val (.long q1), .second, .val (.int p2), .val (.int (frm1 q1)), .val (.int (frm1 (p2.toInt64)))] [(.int (frm2 q1 (frm1 q1)))])) (B := T13.setTop (mkF m 20 #[.val (.long q1), .second, .val (.int p2), .val (.int (frm1 q1)), .val (.int (frm1 (p2.toInt64)))] [])) (fun t k => ?_) ?_
    · show Steps p.tables e below (T13.setTop (mkF m 17 #[.val (.long q1), .second, .val (.int p2), .val (.int (frm1 q1)), .val (.int (frm1 (p2.toInt64)))] [(.int (frm2 q1 (frm1 q1)))])) _
      refine XS.ifNo X13.here hx rfl (hb hby at_17) rfl ((if0 _ _).trans (feq hc17_14).1) ?_
      exact k
    refine own_go (A := T13.setTop (mkF m 20 #[.val (.long q1), .second, .val (.int p2), .val (.int (frm1 q1)), .val (.int (frm1 (p2.toInt64)))] [])) (B := T13.setTop (mkF m 23 #[.val (.long q1), .second, .val (.int p2), .val (.int (frm1 q1)), .val (.int (frm1 (p2.toInt64)))] [(.int p2), (.int (frm1 (p2.toInt64)))])) (fun t k => ?_) ?_
    · show Steps p.tables e below (T13.setTop (mkF m 20 #[.val (.long q1), .second, .val (.int p2), .val (.int (frm1 q1)), .val (.int (frm1 (p2.toInt64)))] [])) _
      refine XS.iload X13.here hx rfl (hb hby at_20) rfl ?_
      show Steps p.tables e below (T13.setTop (mkF m 22 #[.val (.long q1), .second, .val (.int p2), .val (.int (frm1 q1)), .val (.int (frm1 (p2.toInt64)))] [(.int (frm1 (p2.toInt64)))])) _
      refine XS.iloadN X13.here hx rfl (hb hby at_22) rfl ?_
      exact k
    by_cases hc23_15 : (frm1 (p2.toInt64)) = p2
    · refine own_go (A := T13.setTop (mkF m 23 #[.val (.long q1), .second, .val (.int p2), .val (.int (frm1 q1)), .val (.int (frm1 (p2.toInt64)))] [(.int p2), (.int (frm1 (p2.toInt64)))])) (B := T13.setTop (mkF m 26 #[.val (.long q1), .second, .val (.int p2), .val (.int (frm1 q1)), .val (.int (frm1 (p2.toInt64)))] [])) (fun t k => ?_) ?_
      · show Steps p.tables e below (T13.setTop (mkF m 23 #[.val (.long q1), .second, .val (.int p2), .val (.int (frm1 q1)), .val (.int (frm1 (p2.toInt64)))] [(.int p2), (.int (frm1 (p2.toInt64)))])) _
        refine XS.icmpNo X13.here hx rfl (hb hby at_23) rfl (teq hc23_15).2 ?_
        exact k
      refine own_go (A := T13.setTop (mkF m 26 #[.val (.long q1), .second, .val (.int p2), .val (.int (frm1 q1)), .val (.int (frm1 (p2.toInt64)))] [])) (B := T13.setTop (mkF m 31 #[.val (.long q1), .second, .val (.int p2), .val (.int (frm1 q1)), .val (.int (frm1 (p2.toInt64)))] [(.int (1 : Int32))])) (fun t k => ?_) ?_
      · show Steps p.tables e below (T13.setTop (mkF m 26 #[.val (.long q1), .second, .val (.int p2), .val (.int (frm1 q1)), .val (.int (frm1 (p2.toInt64)))] [])) _
        refine XS.iconst X13.here hx rfl (hb hby at_26) ?_
        show Steps p.tables e below (T13.setTop (mkF m 27 #[.val (.long q1), .second, .val (.int p2), .val (.int (frm1 q1)), .val (.int (frm1 (p2.toInt64)))] [(.int (1 : Int32))])) _
        refine XS.goto X13.here hx rfl (pc0 := 27) (pc' := 31) rfl (hb hby at_27) (by decide) (by decide) ?_
        exact k
      obtain ⟨fs, hr, hrun, hended, hW, hsame⟩ := X13.leave (v := some (.int (1 : Int32))) (fun h => by rw [Bd.returns] at h; cases h)
      refine ⟨_, _, ?_, hrun, hended, _, _, rfl, ?_, ⟨_, rfl⟩, hW, hsame.mono (by decide) (by decide)⟩
      · show Steps p.tables e below (T13.setTop (mkF m 31 #[.val (.long q1), .second, .val (.int p2), .val (.int (frm1 q1)), .val (.int (frm1 (p2.toInt64)))] [(.int (1 : Int32))])) _
        exact retN X13 hx (t := .boolean) Bd.returns (by simp) (hb hby at_31) hr
      · show Qrm0 Z q1 p2 h0 n0 _ T13.heap _
        rw [e13]
        exact ⟨(by simp only [frm0, if_neg hc17_14, if_pos hc23_15]), N13⟩
    · refine own_go (A := T13.setTop (mkF m 23 #[.val (.long q1), .second, .val (.int p2), .val (.int (frm1 q1)), .val (.int (frm1 (p2.toInt64)))] [(.int p2), (.int (frm1 (p2.toInt64)))])) (B := T13.setTop (mkF m 30 #[.val (.long q1), .second, .val (.int p2), .val (.int (frm1 q1)), .val (.int (frm1 (p2.toInt64)))] [])) (fun t k => ?_) ?_
      · show Steps p.tables e below (T13.setTop (mkF m 23 #[.val (.long q1), .second, .val (.int p2), .val (.int (frm1 q1)), .val (.int (frm1 (p2.toInt64)))] [(.int p2), (.int (frm1 (p2.toInt64)))])) _
        refine XS.icmpYes X13.here hx rfl (pc0 := 23) (pc' := 30) rfl (hb hby at_23) rfl (feq hc23_15).2 (by decide) (by decide) ?_
        exact k
      refine own_go (A := T13.setTop (mkF m 30 #[.val (.long q1), .second, .val (.int p2), .val (.int (frm1 q1)), .val (.int (frm1 (p2.toInt64)))] [])) (B := T13.setTop (mkF m 31 #[.val (.long q1), .second, .val (.int p2), .val (.int (frm1 q1)), .val (.int (frm1 (p2.toInt64)))] [(.int (0 : Int32))])) (fun t k => ?_) ?_
      · show Steps p.tables e below (T13.setTop (mkF m 30 #[.val (.long q1), .second, .val (.int p2), .val (.int (frm1 q1)), .val (.int (frm1 (p2.toInt64)))] [])) _
        refine XS.iconst X13.here hx rfl (hb hby at_30) ?_
        exact k
      obtain ⟨fs, hr, hrun, hended, hW, hsame⟩ := X13.leave (v := some (.int (0 : Int32))) (fun h => by rw [Bd.returns] at h; cases h)
      refine ⟨_, _, ?_, hrun, hended, _, _, rfl, ?_, ⟨_, rfl⟩, hW, hsame.mono (by decide) (by decide)⟩
      · show Steps p.tables e below (T13.setTop (mkF m 31 #[.val (.long q1), .second, .val (.int p2), .val (.int (frm1 q1)), .val (.int (frm1 (p2.toInt64)))] [(.int (0 : Int32))])) _
        exact retN X13 hx (t := .boolean) Bd.returns (by simp) (hb hby at_31) hr
      · show Qrm0 Z q1 p2 h0 n0 _ T13.heap _
        rw [e13]
        exact ⟨(by simp only [frm0, if_neg hc17_14, if_neg hc23_15]), N13⟩
theorem own_clamp (q : Int64) : (q.toInt > 2147483647 → (frm1 q).toInt = 2147483647) ∧ (q.toInt < -2147483648 → (frm1 q).toInt = -2147483648) ∧ (-2147483648 ≤ q.toInt → q.toInt ≤ 2147483647 → (frm1 q).toInt = q.toInt) := by
  have e1 : (2147483647 : Int64).toInt = 2147483647 := rfl
  have e2 : (-2147483648 : Int64).toInt = -2147483648 := rfl
  have e3 : (2147483647 : Int32).toInt = 2147483647 := rfl
  have e4 : (-2147483648 : Int32).toInt = -2147483648 := rfl
  have e5 := c_l2i q
  have e6 := rng32 q.toInt32
  unfold frm1
  simp only [Int64.lt_iff_toInt_lt, e1, e2]
  split
  · refine ⟨fun _ => ?_, fun _ => ?_, fun _ _ => ?_⟩ <;> first | rfl | omega
  · split
    · refine ⟨fun _ => ?_, fun _ => ?_, fun _ _ => ?_⟩ <;> first | rfl | omega
    · refine ⟨fun _ => ?_, fun _ => ?_, fun _ _ => ?_⟩ <;> omega
theorem own_pinned (q : Int64) : frm2 q (frm1 q) = 1 := by
  have e1 : (2147483647 : Int64).toInt = 2147483647 := rfl
  have e2 : (-2147483648 : Int64).toInt = -2147483648 := rfl
  have e3 : (2147483647 : Int32).toInt = 2147483647 := rfl
  have e4 : (-2147483648 : Int32).toInt = -2147483648 := rfl
  obtain ⟨a, b, c⟩ := own_clamp q
  have e5 := c_i2l (frm1 q)
  unfold frm2
  simp only [Int64.lt_iff_toInt_lt, ← Int64.toInt_inj, ← Int32.toInt_inj, e1, e2, e3, e4, e5]
  split
  · split
    · omega
    · split
      · rfl
      · omega
  · split
    · split
      · rfl
      · omega
    · split
      · rfl
      · omega
theorem own_law (q : Int64) (p : Int32) : frm0 q p = 1 := by
  unfold frm0
  rw [own_pinned]
  have e : frm1 p.toInt64 = p := by
    obtain ⟨a, b, c⟩ := own_clamp p.toInt64
    have := rng32 p
    rw [c_i2l] at a b c
    exact Int32.toInt_inj.mp (c (by omega) (by omega))
  rw [e]
  simp
set_option maxRecDepth 65536 in
set_option maxHeartbeats 40000000 in
theorem comes_1 {Post : Tables → Env → Array Value → State → Outcome → State → Prop} (hpost : ∀ tb e args s v u, (limb_1_1.after args s (.returned v) u = true ∧ limb_1_2.after args s (.returned v) u = true ∧ True) → FrameEnd s (.returned v) u (Jvm.fieldLocs frame_1_writes args s ++ Jvm.arrayLocs frame_1_arrays args s ++ Jvm.staticLocs frame_1_statics s) 0 0 → Post tb e args s (.returned v) u) :
    ArmFor flags0 classFile x code maxLocals ret World_1 tables_1 room_1 Calls_1 rest_1 Pre_1 Post := by
  intro l hfl _ _ p e ha hc hk s m args below hf hA hF happ hP
  obtain ⟨hcalls, hrest, hpre⟩ := hP
  obtain ⟨-, -, -, hnamed, -, -, -, hat⟩ := (Spec.applies_iff hf).mp happ
  obtain ⟨hg, hn⟩ := and_e (Cond.before_iff.mp (show (Jvm.Cond.and given_1 narrow_1).before args s = true from hpre))
  obtain ⟨hg0, hgs⟩ := and_e hg
  obtain ⟨w0, w1, rfl⟩ : ∃ w0 w1 : Value, args = #[w0, w1] := by
    have hs : args.size = 2 := by simpa [Cond.value, given_1] using hg0
    obtain ⟨L⟩ := args
    match L, hs with
    | [w0, w1], _ => exact ⟨w0, w1, rfl⟩
  have hw := fun d (hd : d ∈ tables_1) => atoms_spec (ws := Jvm.Cond.code x code maxLocals ret :: tables_1) hat d (List.mem_cons_of_mem _ hd)
  have hfit : Fit s := fun {y c} hc i hi => by
    obtain ⟨ha, rfl⟩ := Array.getElem?_eq_some_iff.mp hc
    have q := List.all_eq_true.mp ((Array.all_eq_true_iff_forall_mem.mp hF) _ (Array.getElem_mem ha)) i (List.mem_range.mpr hi)
    simpa [Array.getElem?_eq_getElem hi] using q
  obtain ⟨gi0, gr0⟩ := and_e hgs
  obtain ⟨i0, ei0⟩ := isL_v gi0
  obtain rfl : w0 = (.long i0) := Option.some.inj ei0
  obtain ⟨i1, ei1⟩ := is_v gr0
  obtain rfl : w1 = (.int i1) := Option.some.inj ei1
  obtain ⟨n, o, h1, h2, h3, _, L, rfl, ⟨hv, N⟩, hq⟩ := rm0 l s _ hw tables_1 i0 i1  s.heap s.heap.size (Nat.le_refl _)  p e ha hc hk s m _ below hf ((Spec.applies_iff_loose hf).mp happ).1 ⟨rfl, State.Warmed39.refl s, rfl⟩ trivial
  obtain rfl := hv.trans (by rw [own_law])
  refine ⟨n, _, h1, h2, h3, hpost _ _ _ _ _ _ ⟨Cond.after_iff.mpr rfl, Cond.after_iff.mpr (eq_i res_at (Term.int_eval (1)) rfl), trivial⟩ ⟨hq.1, hq.2.1, (hq.2.2.sift fun y hy => Or.inr (N y hy)).mono (by decide) (by decide)⟩⟩
theorem main_1_1 : Claimed_1_1 := comes_1 fun _ _ _ _ _ _ h hF => ⟨h.1, hF⟩
theorem main_1_2 : Claimed_1_2 := comes_1 fun _ _ _ _ _ _ h hF => ⟨h.2.1, hF⟩
end Jvm.Pilot.@@N@@
namespace Jvm.Pilot.@@N@@
open Jvm Jvm.ClassFile Sem Op Lib Jvm.Free Jvm.Stand Jvm.Pilot.@@N@@.Jvm.D
/-! MADE BY PROGRAM (witnessworld.py) out of the Statement's table words and the real class files: 9 classes; the members and pool entries that the words name. The judged class is class 1, her method 2. -/
namespace start1
open Jvm.ClassFile
def u (s : String) : CpInfo := .utf8 (stringToUtf16 s)
/-- a pool by its gaps: so many unusable entries, then the entry; so many at the end -/
def gap : Nat → List CpInfo → List CpInfo
  | 0, r => r
  | n + 1, r => .unusable :: gap n r
def poolList (es : List (Nat × CpInfo)) (last : Nat) : List CpInfo := es.foldr (fun e r => gap e.1 (e.2 :: r)) (gap last [])
def pool (es : List (Nat × CpInfo)) (last : Nat) : Array CpInfo := ⟨poolList es last⟩
def fileOf (pool : Array CpInfo) (this : Nat) (attrs : Array Attribute := #[]) (ms : Array MethodInfo := #[]) (fl : Nat := 33) (sup : Nat := 0) (ifs : Array Nat := #[]) (fds : Array FieldInfo := #[]) : ClassFile where
  minorVersion := 0
  majorVersion := 65
  constantPool := pool
  accessFlags := fl
  thisClass := this
  superClass := sup
  interfaces := ifs
  fields := fds
  methods := ms
  attributes := attrs
def plain (name : String) (sup : Option ClassId) : Class where
  name := name
  kind := .ordinary
  loader := none
  accessFlags := 33
  super := sup
  interfaces := #[]
  cf := none
  fields := #[]
  methods := #[]
  instanceTypes := #[]
  staticTypes := #[]
  resolved := #[]
  callSites := []
  init := .initialized
  statics := none
  mirror := none

def pool0 : Array CpInfo := pool [(5, u "<init>"), (0, u "()V"), (1, .class_ 10), (1, u "java/lang/Object")] 113

def k0m0 : Method := { name := "<init>", desc := "()V", sig := { parameters := [], returnType := none }, accessFlags := 1, code := none }
/-- java/lang/Object -/
def k0 : Class := { plain "java/lang/Object" none with
  accessFlags := 33
  interfaces := #[]
  cf := some (fileOf pool0 8 #[] #[{ accessFlags := 1, nameIndex := 5, descriptorIndex := 6, attributes := #[] }] 33 0 #[] #[])
  fields := #[]
  methods := #[k0m0]
  instanceTypes := #[]
  staticTypes := #[]
  resolved := Array.replicate 124 none
  statics := none }

def pool1 : Array CpInfo := pool [(2, .class_ 4), (1, u "java/lang/Object"), (0, u "<init>"), (0, u "()V"), (2, .long 18446744071562067968), (1, .long 2147483647), (1, .integer 2147483647), (0, .integer 2147483648), (0, .methodref 16 17), (0, .class_ 18), (0, .nameAndType 19 20), (0, u "com/example/mullion/mullion/geom/Saturating"), (0, u "clamp"), (0, u "(J)I"), (0, .methodref 22 23), (0, .class_ 24), (0, .nameAndType 25 26), (0, u "com/example/mullion/mullion/geom/SaturatingClampPinLaw"), (0, u "pinned"), (0, u "(JI)Z"), (3, u "law")] 2

def k1m0 : Method := { name := "<init>", desc := "()V", sig := { parameters := [], returnType := none }, accessFlags := 2, code := none }
def k1c1 : Code := { maxStack := 4, maxLocals := 5, code := method_2_code, exceptionTable := #[], attributes := #[] }
def k1m1 : Method := { name := "pinned", desc := "(JI)Z", sig := { parameters := [.long, .int], returnType := some .boolean }, accessFlags := 10, code := some k1c1 }
def k1c2 : Code := { maxStack := 3, maxLocals := 5, code := code, exceptionTable := #[], attributes := #[] }
def k1m2 : Method := { name := "law", desc := "(JI)Z", sig := { parameters := [.long, .int], returnType := some .boolean }, accessFlags := 9, code := some k1c2 }
/-- com/example/mullion/mullion/geom/SaturatingClampPinLaw -/
def k1 : Class := { plain "com/example/mullion/mullion/geom/SaturatingClampPinLaw" (some 0) with
  accessFlags := 49
  interfaces := #[]
  cf := some (fileOf pool1 22 #[] #[{ accessFlags := 2, nameIndex := 5, descriptorIndex := 6, attributes := #[] }, { accessFlags := 10, nameIndex := 25, descriptorIndex := 26, attributes := #[] }, { accessFlags := 9, nameIndex := 30, descriptorIndex := 26, attributes := #[] }] 49 2 #[] #[])
  fields := #[]
  methods := #[k1m0, k1m1, k1m2]
  instanceTypes := #[]
  staticTypes := #[]
  resolved := Array.replicate 33 none
  statics := none }

def pool2 : Array CpInfo := pool [(2, .class_ 4), (1, u "java/lang/Object"), (0, u "<init>"), (0, u "()V"), (1, .class_ 10), (1, u "com/example/mullion/mullion/geom/Saturating"), (0, u "clamp"), (0, u "(J)I"), (2, .long 2147483647), (1, .integer 2147483647), (0, .long 18446744071562067968), (1, .integer 2147483648)] 9

def k2m0 : Method := { name := "<init>", desc := "()V", sig := { parameters := [], returnType := none }, accessFlags := 2, code := none }
def k2c1 : Code := { maxStack := 4, maxLocals := 2, code := prog_6_method_5_code, exceptionTable := #[], attributes := #[] }
def k2m1 : Method := { name := "clamp", desc := "(J)I", sig := { parameters := [.long], returnType := some .int }, accessFlags := 9, code := some k2c1 }
/-- com/example/mullion/mullion/geom/Saturating -/
def k2 : Class := { plain "com/example/mullion/mullion/geom/Saturating" (some 0) with
  accessFlags := 49
  interfaces := #[]
  cf := some (fileOf pool2 8 #[] #[{ accessFlags := 2, nameIndex := 5, descriptorIndex := 6, attributes := #[] }, { accessFlags := 9, nameIndex := 11, descriptorIndex := 12, attributes := #[] }] 49 2 #[] #[])
  fields := #[]
  methods := #[k2m0, k2m1]
  instanceTypes := #[]
  staticTypes := #[]
  resolved := Array.replicate 30 none
  statics := none }

def pool3 : Array CpInfo := pool [(1, u "java/lang/Cloneable"), (0, .class_ 1), (0, u "java/lang/Object"), (0, .class_ 3)] 3

/-- java/lang/Cloneable -/
def k3 : Class := { plain "java/lang/Cloneable" (some 0) with
  accessFlags := 1537
  interfaces := #[]
  cf := some (fileOf pool3 2 #[] #[] 1537 4 #[] #[])
  fields := #[]
  methods := #[]
  instanceTypes := #[]
  staticTypes := #[]
  resolved := Array.replicate 8 none
  statics := none }

def pool4 : Array CpInfo := pool [(1, u "java/io/Serializable"), (0, .class_ 1), (0, u "java/lang/Object"), (0, .class_ 3)] 3

/-- java/io/Serializable -/
def k4 : Class := { plain "java/io/Serializable" (some 0) with
  accessFlags := 1537
  interfaces := #[]
  cf := some (fileOf pool4 2 #[] #[] 1537 4 #[] #[])
  fields := #[]
  methods := #[]
  instanceTypes := #[]
  staticTypes := #[]
  resolved := Array.replicate 8 none
  statics := none }

/-- the primitive byte -/
def k5 : Class := { plain "byte" none with kind := .primitive 'B', accessFlags := 0x411 }
/-- [B -/
def k6 : Class := { plain "[B" (some 0) with kind := .array 5 .byte, interfaces := #[3, 4], accessFlags := 1041 }

/-- the primitive int -/
def k7 : Class := { plain "int" none with kind := .primitive 'I', accessFlags := 0x411 }
/-- [I -/
def k8 : Class := { plain "[I" (some 0) with kind := .array 7 .int, interfaces := #[3, 4], accessFlags := 1041 }

def heap : Heap := #[]
def classes : Array Class := #[k0, k1, k2, k3, k4, k5, k6, k7, k8]
def interned : List (Array UInt16 × Addr) := []
def slotsUsed : Nat := 0
def theMethod : MethodId := ⟨1, 2⟩
def args0 : Array Value := #[.long 5000000000, .int 7]
def aboutOver (below : List Frame) : State where
  vm := { classes := classes, interned := interned.toArray }
  heap := heap
  slotsUsed := slotsUsed
  threads := #[{ frames := .invoking theMethod args0 :: below }]
def below0 : List Frame := [.native { method := ⟨0, 0⟩, args := #[] }]
def about1 : State := aboutOver below0
def p0 : Program := .bare "" "" ""
def e0 : Env := launch0.env 0 0 0
theorem w_frames : about1.frames = Frame.invoking theMethod args0 :: below0 := rfl
set_option maxRecDepth 65536 in
theorem w_args : argsFit about1.vm theMethod args0 = true := by decide +kernel
set_option maxRecDepth 65536 in
theorem w_heap : heapFits about1 = true := by decide +kernel
set_option maxRecDepth 65536 in
theorem w_runnable : about1.curStatus? = some .runnable := by decide +kernel
set_option maxRecDepth 65536 in
theorem w_alone : about1.alone = true := by decide +kernel
set_option maxRecDepth 65536 in
theorem w_named : about1.methodNamed? x = some theMethod := by decide +kernel
set_option maxRecDepth 65536 in
theorem w_hears : about1.hears theMethod below0 = true := by decide +kernel
set_option maxRecDepth 65536 in
theorem w_ripe : about1.ripe theMethod args0 below0 = true := by decide +kernel
theorem w_running : about1.status = .running := rfl
set_option maxRecDepth 65536 in
theorem w_room : about1.hasRoom e0.platform room_1 = true :=
  launch0.hasRoom_least _ room_1 (by decide +kernel) (by decide +kernel) (by decide +kernel) (by decide +kernel) (by decide +kernel) (by decide +kernel)
theorem allAtoms_all (ts : List Jvm.Cond) (a : Array Jvm.Value) (st : Jvm.State) : (allAtoms ts).before a st = ts.all (fun c => c.before a st) := by
  induction ts with
  | nil => rfl
  | cons c t ih =>
    show (Jvm.Cond.and c (allAtoms t)).before a st = _
    rw [Jvm.Cond.before_and, ih, List.all_cons]
def words1 : List Jvm.Cond := Jvm.Cond.code x code maxLocals ret :: tables_1
/-- a 'code' word, met by the world's own term for the bytes: nothing is compared byte by byte -/
theorem code_word {y : MethodName} {bytes : ByteArray} {mx : Nat} {rt : Option FieldType} {a : Array Value} {s : State} {m : MethodId} {meth : Method} {c : Code} (h1 : s.methodNamed? y = some m) (h2 : s.vm.method? m = some meth) (h3 : meth.code = some c) (h4 : c.code = bytes)
    (h5 : (c.maxLocals == mx && c.exceptionTable.isEmpty && decide (c.maxStack ≤ mostOperands) && decide (meth.sig.returnType = rt) && !meth.locks && decide (parseMethodDescriptor y.desc = some meth.sig)) = true) : (Jvm.Cond.code y bytes mx rt).before a s = true := by
  simp only [Bool.and_eq_true, beq_iff_eq, Bool.not_eq_true', decide_eq_true_eq] at h5
  obtain ⟨⟨⟨⟨⟨g1, g2⟩, g3⟩, g4⟩, g5⟩, g6⟩ := h5
  simp [Cond.before, Cond.holds, Cond.value, h1, h2, h3, h4, g1, g2, g3, g4, g5, g6]
def isCode : Jvm.Cond → Bool
  | .code _ _ _ _ => true
  | _ => false
theorem all_split {L : List Jvm.Cond} {P : Jvm.Cond → Bool} (h1 : L.all (fun c => isCode c || P c) = true) (h2 : ∀ c ∈ L.filter isCode, P c = true) : L.all P = true := by
  refine List.all_eq_true.mpr fun c hc => ?_
  have h := List.all_eq_true.mp h1 c hc
  rcases Bool.eq_false_or_eq_true (isCode c) with hi | hi
  · exact h2 c (List.mem_filter.mpr ⟨hc, hi⟩)
  · simpa [hi] using h
set_option maxRecDepth 65536 in
theorem w_c0 : (Jvm.Cond.code x code maxLocals ret).before args0 about1 = true := code_word (m := ⟨1, 2⟩) (meth := k1m2) (c := k1c2) (by decide +kernel) rfl rfl rfl (by decide +kernel)
set_option maxRecDepth 65536 in
theorem w_c1 : (Jvm.Cond.code ({ cls := "com/example/mullion/mullion/geom/Saturating", name := "clamp", desc := "(J)I" } : Jvm.MethodName) prog_6_method_5_code (2 : Nat) (Option.some Jvm.ClassFile.FieldType.int)).before args0 about1 = true := code_word (m := ⟨2, 1⟩) (meth := k2m1) (c := k2c1) (by decide +kernel) rfl rfl rfl (by decide +kernel)
set_option maxRecDepth 65536 in
theorem w_c2 : (Jvm.Cond.code ({ cls := "com/example/mullion/mullion/geom/SaturatingClampPinLaw", name := "pinned", desc := "(JI)Z" } : Jvm.MethodName) method_2_code (5 : Nat) (Option.some Jvm.ClassFile.FieldType.boolean)).before args0 about1 = true := code_word (m := ⟨1, 1⟩) (meth := k1m1) (c := k1c1) (by decide +kernel) rfl rfl rfl (by decide +kernel)
def codes1 : List Jvm.Cond := [Jvm.Cond.code x code maxLocals ret, Jvm.Cond.code ({ cls := "com/example/mullion/mullion/geom/Saturating", name := "clamp", desc := "(J)I" } : Jvm.MethodName) prog_6_method_5_code (2 : Nat) (Option.some Jvm.ClassFile.FieldType.int), Jvm.Cond.code ({ cls := "com/example/mullion/mullion/geom/SaturatingClampPinLaw", name := "pinned", desc := "(JI)Z" } : Jvm.MethodName) method_2_code (5 : Nat) (Option.some Jvm.ClassFile.FieldType.boolean)]
set_option maxRecDepth 65536 in
theorem codes_eq : words1.filter isCode = codes1 := rfl
theorem w_codes : ∀ c ∈ words1.filter isCode, c.before args0 about1 = true := by
  rw [codes_eq]
  intro c hc
  simp only [codes1, List.mem_cons, List.not_mem_nil, or_false] at hc
  rcases hc with rfl | rfl | rfl
  · exact w_c0
  · exact w_c1
  · exact w_c2
set_option maxRecDepth 65536 in
theorem w_t1 : words1.all (fun c => isCode c || c.before args0 about1) = true := by decide +kernel
theorem w_tables : (allAtoms (Jvm.Cond.code x code maxLocals ret :: tables_1)).before args0 about1 = true := by
  rw [allAtoms_all]
  show words1.all (fun c => c.before args0 about1) = true
  refine all_split ?_ w_codes
  rw [w_t1]
set_option maxRecDepth 65536 in
theorem w_case : (Jvm.Cond.and given_1 narrow_1).before args0 about1 = true := by decide +kernel
theorem w_applies : (headSpec (Jvm.Cond.code x code maxLocals ret :: tables_1) room_1).applies x e0.platform about1 = true :=
  (Spec.applies_iff w_frames).mpr ⟨w_running, w_runnable, w_alone, w_named, w_hears, w_ripe, w_room, w_tables⟩
theorem atStart : AtStart classFile x code maxLocals ret World_1 tables_1 room_1 Calls_1 rest_1 Pre_1 launch0 p0 e0 about1 theMethod args0 below0 :=
  ⟨lists_1, trivial, launch0.admits_env _ _ _, launch0.least_env, fairChoices_fair.cas, fairChoices_fair.clock, w_frames, w_args, w_heap, w_applies, trivial, trivial, w_case⟩
end start1
theorem witness_1 : WitnessClaimed_1 := ⟨start1.p0, start1.e0, start1.about1, start1.theMethod, start1.args0, start1.below0, start1.atStart⟩
end Jvm.Pilot.@@N@@
